/- Part of FnArgon2Derive. No condition. -/
import Derived.Test.YtcminalaicidiaaGreatDoorZC
set_option maxRecDepth 100000
set_option maxHeartbeats 8000000
set_option linter.all false
def Ig:=@BitVec.add_assoc
def aoo:=@BitVec.eq_of_getLsbD_eq
def aop:=@BitVec.getLsbD_shiftLeft
def aoq:=@BitVec.getLsbD_ushiftRight
def eD:=@BitVec.toNat_add
def iG:=@BitVec.toNat_mul
def Ie:=@BitVec.xor_comm
def aor:=@Int.emod_lt_of_pos
def Es:=@Int.mul_tdiv_cancel
def Bz:=@Int.natCast_mul
def oz:=@Int.tmod_eq_emod_of_nonneg
def Ic:=@List.ext_getElem
def If:=@List.map_congr_left
def WE:=@List.mem_flatMap
def By:=@Nat.div_lt_of_lt_mul
def Bx:=@Nat.le_div_iff_mul_le
def xd:=@Nat.mul_le_mul
def Bw:=@Nat.mul_zero
def Et:=@and_false
def uL:=@eq_false
def uK:=@eq_true
def zd:=@false_and
def pN:=@ite_false
def Eu:=@ite_true
noncomputable section
namespace Go.Proofs.YtcminalaicidiaaGreatDoor
section
open Go.aA
variable{ix:Nat→Nat}
def nS{X:U 64}{i:Nat}(v:BitVec 64)(n:Nat)(hi:i<X.n):aK (X.set i v) n=if n=i then v else aK X n:=by
 show((X.l.set i v).getD n 0#64)=_;unfold aK;simp only[dZ,Bn];have:i<X.l.length:=by rw[X.h];exact hi
 by_cases h:i=n
 ·subst h;simp[this]
 ·simp[h,fB h]
def Gh(x:BitVec 64):Ge x=p5 x:=by
 apply nc;unfold Ge p5;rw[Wd,kJ,kJ,show(4294967295#64).toNat=2^32-1 from rfl,Nat.and_two_pow_sub_one_eq_mod];omega
structure nT(X:U 64)(a b c d:Nat)(x y z w:BitVec 64)(Y:U 64):Prop where
 xy:Y.n=X.n
 WT:aK Y a=x
 hb:aK Y b=y
 hc:aK Y c=z
 W4:aK Y d=w
 ho:∀n,n≠a→n≠b→n≠c→n≠d→aK Y n=aK X n
structure AA(N a b c d:Nat):Prop where
 lt:a<N∧b<N∧c<N∧d<N
 ne:a≠b∧a≠c∧a≠d∧b≠c∧b≠d∧c≠d
section
variable{X Y:U 64}{a b c d:Nat}{x y z w:BitVec 64}
def Gi(x y:BitVec 64):BitVec 64:=x+(y+2#64*p5 x*p5 y)
def nT.RQ(D:AA X.n a b c d)(h:nT X a b c d x y z w Y):nT X a b c d (Gi x y) y z w (vT Y a b):=by
 obtain⟨j,k,f,l,m,o⟩:=h;obtain⟨⟨u,A,B,C⟩,dI,p,q,E,F,H⟩:=D;have e:=fun v n=>nS (X:=Y) (i:=a) v n (by omega);unfold vT Gi;rw[k,f,Gh,Gh];refine⟨j,by rw[e,av rfl],by rw[e,ak (fB dI),f],by rw[e,ak (fB p),l],by rw[e,ak (fB q),m],fun n g r s t=>by rw[e,ak g,o n g r s t]⟩
def nT.RR(D:AA X.n a b c d)(h:nT X a b c d x y z w Y):nT X a b c d x y (Gi z w) w (vT Y c d):=by
 obtain⟨j,k,l,m,f,o⟩:=h;obtain⟨⟨A,B,C,E⟩,dI,p,F,q,H,r⟩:=D;have e:=fun v n=>nS (X:=Y) (i:=c) v n (by omega);unfold vT Gi;rw[m,f,Gh,Gh];refine⟨j,by rw[e,ak p,k],by rw[e,ak q,l],by rw[e,av rfl],by rw[e,ak (fB r),f],fun n s t g u=>by rw[e,ak g,o n s t g u]⟩
def nT.AB(D:AA X.n a b c d)(h:nT X a b c d x y z w Y)(k m:Nat)(j:m=64-k):nT X a b c d x y z (vO (w^^^x) k) (vU Y d a k m):=by
 obtain⟨l,f,o,p,q,r⟩:=h;obtain⟨⟨E,F,H,I⟩,dI,J,s,K,t,u⟩:=D;have e:=fun v n=>nS (X:=Y) (i:=d) v n (by omega);subst j;unfold vU vO;rw[f,q];refine⟨l,by rw[e,ak s,f],by rw[e,ak t,o],by rw[e,ak u,p],by rw[e,av rfl],fun n A B C g=>by rw[e,ak g,r n A B C g]⟩
def nT.RS(D:AA X.n a b c d)(h:nT X a b c d x y z w Y)(k m:Nat)(j:m=64-k):nT X a b c d x (vO (y^^^z) k) z w (vU Y b c k m):=by
 obtain⟨l,o,p,f,q,r⟩:=h;obtain⟨⟨C,E,F,H⟩,dI,I,J,s,t,K⟩:=D;have e:=fun v n=>nS (X:=Y) (i:=b) v n (by omega);subst j;unfold vU vO;rw[p,f];refine⟨l,by rw[e,ak dI,o],by rw[e,av rfl],by rw[e,ak (fB s),f],by rw[e,ak (fB t),q],fun n u g A B=>by rw[e,ak g,r n u g A B]⟩
def ad7(D:AA X.n a b c d):nT X a b c d (l5 (aK X a) (aK X b) (aK X c) (aK X d)).a (l5 (aK X a) (aK X b) (aK X c) (aK X d)).b (l5 (aK X a) (aK X b) (aK X c) (aK X d)).c (l5 (aK X a) (aK X b) (aK X c) (aK X d)).d (kz X a b c d):=by
 have e:nT X a b c d (aK X a) (aK X b) (aK X c) (aK X d) X:=⟨rfl,rfl,rfl,rfl,rfl,fun _ _ _ _ _=>rfl⟩;have h1:=(e.RQ D).AB D 32 32 rfl;have h2:=(h1.RR D).RS D 24 40 rfl;have h3:=(h2.RQ D).AB D 16 48 rfl;have h4:=(h3.RR D).RS D 63 1 rfl;exact h4
end
def sr(e:Nat→BitVec 64)(a b c d:Nat):Nat→BitVec 64:=fun k=>if k=a then(l5 (e a) (e b) (e c) (e d)).a else if k=b then(l5 (e a) (e b) (e c) (e d)).b else if k=c then(l5 (e a) (e b) (e c) (e d)).c else if k=d then(l5 (e a) (e b) (e c) (e d)).d else e k
structure yf(ix:Nat→Nat)(N:Nat):Prop where
 lt:∀k,k<16→ix k<N
 inj:∀j k,j<16→k<16→ix j=ix k→j=k
structure su(ix:Nat→Nat)(X:U 64)(V:Nat→BitVec 64)(Y:U 64):Prop where
 xy:Y.n=X.n
 xu:∀k,k<16→aK Y (ix k)=V k
 ho:∀n,(∀k,k<16→n≠ix k)→aK Y n=aK X n
def su.step{ix:Nat→Nat}{X Y:U 64}{u:Nat→BitVec 64}(aq:yf ix X.n)(h:su ix X u Y){a b c d:Nat}(g:a<16)(i:b<16)(l:c<16)(m:d<16)(o:a≠b∧a≠c∧a≠d∧b≠c∧b≠d∧c≠d):su ix X (sr u a b c d) (kz Y (ix a) (ix b) (ix c) (ix d)):=by
 have e:∀{j k},j<16→k<16→j≠k→ix j≠ix k:=fun v p h A=>h (aq.inj _ _ v p A);obtain⟨dI,B,C,E,F,H⟩:=o;have D:AA Y.n (ix a) (ix b) (ix c) (ix d):=by
  rw[h.xy];exact⟨⟨aq.lt a g,aq.lt b i,aq.lt c l,aq.lt d m⟩,e g i dI,e g l B,e g m C,e i l E,e i m F,e l m H⟩
 have f:=ad7 D;rw[h.xu a g,h.xu b i,h.xu c l,h.xu d m]at f;refine⟨f.xy.trans h.xy,fun k p=>?_,fun n o=>(f.ho n (o a g) (o b i) (o c l) (o d m)).trans (h.ho n o)⟩;unfold sr;by_cases q:k=a
 ·subst q;rw[av rfl];exact f.WT
 by_cases r:k=b
 ·subst r;rw[ak q,av rfl];exact f.hb
 by_cases s:k=c
 ·subst s;rw[ak q,ak r,av rfl];exact f.hc
 by_cases t:k=d
 ·subst t;rw[ak q,ak r,ak s,av rfl];exact f.W4
 rw[ak q,ak r,ak s,ak t];exact(f.ho _ (e p g q) (e p i r) (e p l s) (e p m t)).trans (h.xu k p)
def IY(e:Nat→BitVec 64):kr:=⟨e 0,e 1,e 2,e 3,e 4,e 5,e 6,e 7,e 8,e 9,e 10,e 11,e 12,e 13,e 14,e 15⟩
def nU(ix:Nat→Nat):List Nat:=[ix 0,ix 1,ix 2,ix 3,ix 4,ix 5,ix 6,ix 7,ix 8,ix 9,ix 10,ix 11,ix 12,ix 13,ix 14,ix 15]
def Gj(e:Nat→BitVec 64):Nat→BitVec 64:=sr (sr (sr (sr (sr (sr (sr (sr e 0 4 8 12) 1 5 9 13) 2 6 10 14) 3 7 11 15) 0 5 10 15) 1 6 11 12) 2 7 8 13) 3 4 9 14
def ad8(e:Nat→BitVec 64):(List.range 16).map (Gj e)=Ry (Rw (IY e)):=by kernel_rfl
def RU:∀(l:List (Nat×BitVec 64)) (t:U 64),(∀p∈l,p.1<t.n)→(l.map Prod.fst).Nodup→(∀p∈l,aK (vP (l.map Prod.fst) (l.map Prod.snd) t) p.1=p.2)∧∀n,n∉l.map Prod.fst→aK (vP (l.map Prod.fst) (l.map Prod.snd) t) n=aK t n
 |[],t,_,_=>⟨fun p e=>(by cases e),fun n _=>rfl⟩
 |(i,y)::r,t,f,k=>by
  have hi:i<t.n:=f _ (lO ..);have g:i∉r.map Prod.fst∧(r.map Prod.fst).Nodup:=WC.1 k;obtain⟨h1,h2⟩:=RU r (t.set i y) (fun p e=>f p (m9 _ e)) g.2;refine⟨fun p e=>?_,fun n h=>?_⟩
  ·rcases jN.1 e with rfl|e
   ·exact(h2 i g.1).trans (by rw[nS _ _ hi,av rfl])
   ·exact h1 p e
  ·have j:n≠i∧n∉r.map Prod.fst:=by
    simp only[List.map_cons,jN,not_or]at h;exact h
   exact(h2 n j.2).trans (by rw[nS _ _ hi,ak j.1])
def vX{X Y:U 64}(h:X.n=Y.n)(f:∀n,n<X.n→aK X n=aK Y n):X=Y:=by
 obtain⟨n,l,e⟩:=X;obtain⟨m,r,g⟩:=Y;simp only at h;subst h;have:l=r:=by
  refine Ic (e.trans g.symm) fun i h1 h2=>?_;have:=f i (Nat.lt_of_lt_of_eq h1 e);unfold aK at this;simpa[dZ,bW h1,bW h2]using this
 subst this;rfl
def ad9(ix:Nat→Nat)(X:U 64):Rx (nU ix) X=IY fun k=>aK X (ix k):=rfl
def aea(ix:Nat→Nat):(List.range 16).map ix=nU ix:=rfl
def aeb(ix:Nat→Nat)(X:U 64):o4 (nU ix) X=vP ((List.range 16).map ix) ((List.range 16).map (Gj fun k=>aK X (ix k))) X:=by
 rw[ad8,aea];unfold o4;rw[ad9]
def aec{X:U 64}(aq:yf ix X.n)(e:Nat→BitVec 64):su ix X e (vP ((List.range 16).map ix) ((List.range 16).map e) X):=by
 have h:((List.range 16).map fun k=>(ix k,e k)).map Prod.fst=(List.range 16).map ix:=by rw[List.map_map];rfl
 have j:((List.range 16).map fun k=>(ix k,e k)).map Prod.snd=(List.range 16).map e:=by rw[List.map_map];rfl
 have l:∀p∈(List.range 16).map fun k=>(ix k,e k),∃k,k<16∧p=(ix k,e k):=fun p g=>by
  obtain⟨k,f,rfl⟩:=zc.1 g;exact⟨k,oy.1 f,rfl⟩
 have m:((List.range 16).map ix).Nodup:=by
  unfold List.Nodup;rw[List.pairwise_map];exact List.nodup_range.imp_of_mem fun o q r s=>r (aq.inj _ _ (oy.1 o) (oy.1 q) s)
 obtain⟨h1,h2⟩:=RU ((List.range 16).map fun k=>(ix k,e k)) X (fun p g=>by obtain⟨k,f,rfl⟩:=l p g;exact aq.lt k f) (by rw[h];exact m);rw[h,j]at h1 h2;have i:=Kc ((List.range 16).map ix) ((List.range 16).map e) X;generalize vP ((List.range 16).map ix) ((List.range 16).map e) X=Y at i h1 h2⊢;refine⟨?_,fun k f=>h1 (ix k,e k) (zc.2 ⟨k,oy.2 f,rfl⟩),fun n t=>h2 n fun u=>?_⟩
 ·exact i
 ·obtain⟨k,f,rfl⟩:=zc.1 u;exact t k (oy.1 f) rfl
def RV{X:U 64}(aq:yf ix X.n):su ix X (Gj fun k=>aK X (ix k)) (o4 (nU ix) X):=by
 rw[aeb];exact aec aq _
def RX{X:U 64}(aq:yf ix X.n):su ix X (Gj fun k=>aK X (ix k)) (kz (kz (kz (kz (kz (kz (kz (kz X (ix 0) (ix 4) (ix 8) (ix 12)) (ix 1) (ix 5) (ix 9) (ix 13)) (ix 2) (ix 6) (ix 10) (ix 14)) (ix 3) (ix 7) (ix 11) (ix 15)) (ix 0) (ix 5) (ix 10) (ix 15)) (ix 1) (ix 6) (ix 11) (ix 12)) (ix 2) (ix 7) (ix 8) (ix 13)) (ix 3) (ix 4) (ix 9) (ix 14)):=by
 have f:su ix X (fun k=>aK X (ix k)) X:=⟨rfl,fun _ _=>rfl,fun _ _=>rfl⟩;have e:=fun{Y g} (h:su ix X g Y) {a b c d:Nat} (x:a<16∧b<16∧c<16∧d<16∧a≠b∧a≠c∧a≠d∧b≠c∧b≠d∧c≠d)=>h.step aq x.1 x.2.1 x.2.2.1 x.2.2.2.1 x.2.2.2.2;exact e (e (e (e (e (e (e (e f (by decide)) (by decide)) (by decide)) (by decide)) (by decide)) (by decide)) (by decide)) (by decide)
def RY{X Y Z:U 64}{f:Nat→BitVec 64}(h:su ix X f Y)(k:su ix X f Z):Y=Z:=by
 refine vX (h.xy.trans k.xy.symm) fun n _=>?_;by_cases c:∃j,j<16∧n=ix j
 ·obtain⟨j,e,rfl⟩:=c;rw[h.xu j e,k.xu j e]
 ·have g:∀j,j<16→n≠ix j:=fun j e i=>c ⟨j,e,i⟩;rw[h.ho n g,k.ho n g]
end
section
open Go.aA
variable [aR][aF][bq]
variable{k:Int}{n:Nat}
def RZ{a:Nat→Nat}{N:Nat}(h:(List.range 16).all fun j=>decide (a j<N)&&(List.range 16).all fun k=>decide (a j=a k→j=k)):yf a N:=by
 simp only[xb,oy,dH,jM]at h;exact⟨fun k b=>(h k b).1,fun j k c b d=>(h j c).2 k b d⟩
def sv(k:Int)(j:Nat):Nat:=l6 (16*k+j)
def sw(k:Int)(j:Nat):Nat:=l6 (((16*(j/2):Nat):Int)+2*k+((j%2:Nat):Int))
def R0:∀k∈([0,1,2,3,4,5,6,7]:List Int),yf (sv k) 128:=by
 intro k a;have:([0,1,2,3,4,5,6,7]:List Int).all (fun k=>(List.range 16).all fun j=>decide (sv k j<128)&&(List.range 16).all fun i=>decide (sv k j=sv k i→j=i))=true:=by kernel_rfl
 exact RZ (xb.1 this k a)
def R1:∀k∈([0,1,2,3,4,5,6,7]:List Int),yf (sw k) 128:=by
 intro k a;have:([0,1,2,3,4,5,6,7]:List Int).all (fun k=>(List.range 16).all fun j=>decide (sw k j<128)&&(List.range 16).all fun i=>decide (sw k j=sw k i→j=i))=true:=by kernel_rfl
 exact RZ (xb.1 this k a)
def aed{Z:U 64}(a:k∈([0,1,2,3,4,5,6,7]:List Int))(b:Z.n=128):nR gM k Z=o4 (nU (sv k)) Z:=
 RY (ix:=sv k) (RX (by rw[b];exact R0 k a)) (RV (by rw[b];exact R0 k a))
def aee{Z:U 64}(a:k∈([0,1,2,3,4,5,6,7]:List Int))(b:Z.n=128):o6 gM k Z=o4 (nU (sw k)) Z:=
 RY (ix:=sw k) (RX (by rw[b];exact R1 k a)) (RV (by rw[b];exact R1 k a))
def Gk(k:Int)(Z:U 64):(nR gM k Z).n=Z.n:=Kt _ _
def R2(k:Int)(Z:U 64):(o6 gM k Z).n=Z.n:=Kt _ _
def C8:List Int→U 64→U 64|[],Z=>Z|k::r,Z=>C8 r (nR gM k Z)
def Gl:List Int→U 64→U 64|[],Z=>Z|k::r,Z=>Gl r (o6 gM k Z)
def nV:List Int:=[0,1,2,3,4,5,6,7]
def R3:∀(l:List Int) (Z:U 64),(∀k∈l,k∈nV)→Z.n=128→C8 l Z=fY (l.map fun k=>nU (sv k)) Z
 |[],Z,_,_=>rfl|k::r,Z,h,a=>by
  show C8 r (nR gM k Z)=fY (r.map fun k=>nU (sv k)) (o4 (nU (sv k)) Z);rw[←aed (h k (lO ..)) a];exact R3 r _ (fun k b=>h k (m9 _ b)) ((Gk _ _).trans a)
def R4:∀(l:List Int) (Z:U 64),(∀k∈l,k∈nV)→Z.n=128→Gl l Z=fY (l.map fun k=>nU (sw k)) Z
 |[],Z,_,_=>rfl|k::r,Z,h,a=>by
  show Gl r (o6 gM k Z)=fY (r.map fun k=>nU (sw k)) (o4 (nU (sw k)) Z);rw[←aee (h k (lO ..)) a];exact R4 r _ (fun k b=>h k (m9 _ b)) ((R2 _ _).trans a)
def R5:∀(l r:List (List Nat)) (Z:U 64),fY (l++r) Z=fY r (fY l Z)|[],_,_=>rfl|_::l,r,Z=>R5 l r _
def aef:hJ=(nV.map fun k=>nU (sv k))++(nV.map fun k=>nU (sw k)):=by kernel_rfl
def R6:∀(l:List Int) (Z:U 64),(C8 l Z).n=Z.n|[],_=>rfl|k::r,Z=>(R6 r _).trans (Gk k Z)
def R7{Z:U 64}(a:Z.n=128):Az gM Z=fY hJ Z:=by
 have b:Az gM Z=Gl nV (C8 nV Z):=rfl;rw[b,R4 nV _ (fun _ h=>h) ((R6 _ _).trans a),R3 nV _ (fun _ h=>h) a,aef,R5]
def R8(a b:U 64):(mW a b).R=kY a b:=by kernel_rfl
def R9:∀(m:Nat) (d:ye),0≤d.i→d.i+m≤128→d.Z.n=128→(iter nP m d).Z.n=128∧∀n,aK (iter nP m d).Z n=if d.i≤n∧(n:Int)<d.i+m then aK d.Z n^^^aK d.R n else aK d.Z n
 |0,d,_,_,b=>⟨b,fun n=>by
  show aK d.Z n=_;rw[ak (by omega)]⟩
 |m+1,d,f,h1,b=>by
  obtain⟨g,a,Z,i⟩:=d;have f:0≤i:=f;have h1:i+((m+1:Nat):Int)≤128:=h1;have b:Z.n=128:=b;obtain⟨j,e⟩:=R9 m (nP ⟨g,a,Z,i⟩) (by show 0≤i+1;omega) (by show i+1+_≤128;omega) b;refine⟨j,fun n=>?_⟩;have l:∀n,aK (vW Z a Z i) n=if n=0+i.toNat*1 then aK Z (0+i.toNat*1)^^^aK a (0+i.toNat*1)else aK Z n:=fun n=>nS _ n (by omega)
  have e:=e n;have o:aK (iter nP (m+1) ⟨g,a,Z,i⟩).Z n=if i+1≤n∧(n:Int)<i+1+m then aK (vW Z a Z i) n^^^aK a n else aK (vW Z a Z i) n:=e
  rw[o,l]
  show _=if i≤n∧(n:Int)<i+((m+1:Nat):Int)then aK Z n^^^aK a n else aK Z n
  by_cases c:n=0+i.toNat*1
  ·rw[ak (by omega),av c,av (by omega),←c]
  ·rw[ak c];by_cases h:i+1≤n∧(n:Int)<i+1+m
   ·rw[av h,av (by omega)]
   ·rw[ak h,ak (by omega)]
def AD(a b:U 64):(kY a b).n=128:=by kernel_rfl
def C9(f:Nat→BitVec 64)(h:n<128):aK (U.of ((List.range 128).map f)) n=f n:=by
 have a:aK (U.of ((List.range 128).map f)) n=((List.range 128).map f).getD n 0#64:=rfl;rw[a];simp[dZ,h]
def AE(a:U 64)(h:n<128):aK (dg a) n=aK a n:=C9 _ h
def yg(a:U 64):(dg a).n=128:=by kernel_rfl
def o7{a:U 64}(h:a.n=128):dg a=a:=vX ((yg a).trans h.symm) fun n b=>AE a (by rw[yg]at b;exact b)
def Gm(a b:U 64)(h:n<128):aK (kY a b) n=aK a n^^^aK b n:=C9 _ h
def yh(a b:U 64):(bw a b).n=128:=by
 show((List.range 128).map _).length=128;rw[lQ,Bu]
def Gn(a b:U 64)(h:n<128):aK (bw a b) n=(aK a n^^^aK b n)^^^aK (fY hJ (kY a b)) n:=C9 _ h
def aeg(a b:U 64):tR gM a b=(iter nP 128 ⟨(mW a b).W,(mW a b).R,Az gM (dg (mW a b).R),0⟩).Z:=by kernel_rfl
def aeh(a b:U 64):(KC gM (mW a b)).Z=tR gM a b:=by kernel_rfl
def aei(b a Z:U 64)(c:Z.n=128):(iter nP 128 ⟨b,a,Z,0⟩).Z.n=128∧∀n,n<128→aK (iter nP 128 ⟨b,a,Z,0⟩).Z n=aK Z n^^^aK a n:=by
 obtain⟨h1,h2⟩:=R9 128 ⟨b,a,Z,0⟩ (rN 0) (rN 128) c;refine⟨h1,fun n d=>?_⟩;have h:=h2 n;dsimp only at h;rw[h,av (by omega)]
def Sa(a b:U 64):(tR gM a b).n=128∧∀n,n<128→aK (tR gM a b) n=aK (fY hJ (kY a b)) n^^^aK (kY a b) n:=by
 rw[aeg,R8,o7 (AD a b),R7 (AD a b)];exact aei _ _ _ (by rw[ya,AD])
def aej(a b:U 64):tR gM a b=bw a b:=by
 obtain⟨h1,h2⟩:=Sa a b;refine vX (h1.trans (yh a b).symm) fun n c=>?_;rw[h1]at c;rw[h2 n c,Gn a b c,Gm a b c,Ie]
def aek{Z:U 64}(a:k∈nV)(b:Z.n=128):RO k Z=true:=by
 have h:0≤k∧k≤7:=by
  simp only[nV,jN,HW,HX]at a;omega
 refine bl ?_;refine⟨by omega,by omega,by omega,by omega,by omega,by omega,by omega,by omega,by omega,by omega,by omega,by omega,by omega,by omega,by omega,by omega,b⟩
def ael{Z:U 64}(a:k∈nV)(b:Z.n=128):RP k Z=true:=by
 have h:0≤k∧k≤7:=by
  simp only[nV,jN,HW,HX]at a;omega
 refine bl ?_;refine⟨by omega,by omega,by omega,by omega,by omega,by omega,by omega,by omega,by omega,by omega,by omega,by omega,by omega,by omega,by omega,by omega,b⟩
def Sb:∀(l:List Int) (Z:U 64),(∀k∈l,k∈nV)→Z.n=128→∀b∈KD gM l Z,b=true
 |[],_,_,_,b,a=>by cases a
 |k::r,Z,h,c,b,a=>by
  rcases fR.1 a with a|a
  ·exact Sb r _ (fun k d=>h k (m9 _ d)) ((Gk k Z).trans c) b a
  ·rw[tc.1 a];exact aek (h k (lO ..)) c
def Sc:∀(l:List Int) (Z:U 64),(∀k∈l,k∈nV)→Z.n=128→∀b∈KE gM l Z,b=true
 |[],_,_,_,b,a=>by cases a
 |k::r,Z,h,c,b,a=>by
  rcases fR.1 a with a|a
  ·exact Sc r _ (fun k d=>h k (m9 _ d)) ((R2 k Z).trans c) b a
  ·rw[tc.1 a];exact ael (h k (lO ..)) c
def Sd:∀(l:List Int) (Z:U 64),(KF gM l Z).n=Z.n|[],_=>rfl|k::r,Z=>(Sd r _).trans (Gk k Z)
def aem(b a Z:U 64)(c:a.n=128)(d:Z.n=128):l9.aS ⟨b,a,Z,0⟩=true:=bl ⟨by omega,by omega,c,d⟩
def Se:br 29 tS.spec:=by
 refine tS.ok (dm ad3 (ad1 _)) ad5 ?_;rintro⟨b,c⟩ f;refine⟨_,_,_,ad6 gM b c,?_⟩;have e:(mW b c).R.n=128:=by rw[R8];exact AD b c
 have d:=yg (mW b c).R;have cC:(Az gM (dg (mW b c).R)).n=128:=by rw[R7 d,ya,d]
 refine ax rfl (ax rfl (ax (bl (by rw[aeh,(Sa b c).1];omega)) (ax (aem _ _ _ e cC) fun z a=>?_)));rcases fR.1 a with a|a
 ·exact Sc _ _ (fun _ h=>h) ((Sd _ _).trans d) z a
 rcases fR.1 a with a|a
 ·exact Sb _ _ (fun _ h=>h) d z a
 ·exact ax rfl (ax rfl aV) z a
end
section
open Go.aA
variable [aR][aF][bq]
def gr(v:U 8)(a:Nat):BitVec 64:=jg (v.l.getD (a+0) 0#8) (v.l.getD (a+1) 0#8) (v.l.getD (a+2) 0#8) (v.l.getD (a+3) 0#8) (v.l.getD (a+4) 0#8) (v.l.getD (a+5) 0#8) (v.l.getD (a+6) 0#8) (v.l.getD (a+7) 0#8)
structure Sf where
 (v:U 8)(o iy:Nat)
def KH(a:List af)(b:List ah):Option Sf:=
 match a with
 |[.agg [],.ref (.sl 0 (.s c) (.s d) none)]=>
  match b with
  |[⟨.ag v,.ro⟩]=>some ⟨v,c,d⟩|_=>none
 |_=>none
def AF:bT Sf where
 d0:=⟨0,0,0⟩
 read:=KH
 args:=fun⟨_,a,b⟩=>[.agg [],.ref (.sl 0 (.s a) (.s b) none)]
 heap:=fun⟨v,_,_⟩=>[⟨.ag v,.ro⟩]
 val:=fun⟨v,a,_⟩=>(.au (gr v a))
 aS:=fun⟨v,a,b⟩=>decide (a+8≤v.n∧8≤b∧b≤1099511627776)
def aen(v:U 8)(a b:Nat):AF.fS ⟨v,a,b⟩ (some [0]) (bY cr aQ 43) [] [decide ((a+7)<v.n),decide (7<(b:Int)),decide ((a+6)<v.n),decide (6<(b:Int)),decide ((a+5)<v.n),decide (5<(b:Int)),decide ((a+4)<v.n),decide (4<(b:Int)),decide ((a+3)<v.n),decide (3<(b:Int)),decide ((a+2)<v.n),decide (2<(b:Int)),decide ((a+1)<v.n),decide (1<(b:Int)),decide ((a+0)<v.n),decide (0<(b:Int)),decide ((a+7)<v.n),decide (7<(b:Int))]:=by show _=_;kernel_rfl
def aeo:AF.Rd:=by
 intro a b d h;change KH a b=some d at h;unfold KH at h;repeat' split at h
 all_goals cases h
 exact⟨rfl,rfl⟩
def Sg:br 43 AF.spec:=by
 refine AF.ok (dm fL (cK _)) aeo ?_;rintro⟨v,b,c⟩ a;have a:=aZ a;refine⟨[],(some [0]),_,aen v b c,?_⟩
 repeat'(refine ax ?_ ?_)
 all_goals first|exact aV|rfl|(simp only[cz]<;>omega)
def vY:FuncId→Option aA.Spec|43=>some AF.spec|_=>none
def KI:∀f a,vY f=some a→br f a:=by
 intro f a h;unfold vY at h;split at h
 ·cases h;exact Sg
 ·cases h
def yj(v:U 8)(a:Nat)(n:Int):U 64:=U.of [gr v (a+n.toNat),gr v (a+(n+8).toNat),gr v (a+((n+8)+8).toNat),gr v (a+(((n+8)+8)+8).toNat),gr v (a+((((n+8)+8)+8)+8).toNat),gr v (a+(((((n+8)+8)+8)+8)+8).toNat),gr v (a+((((((n+8)+8)+8)+8)+8)+8).toNat),gr v (a+(((((((n+8)+8)+8)+8)+8)+8)+8).toNat),gr v (a+((((((((n+8)+8)+8)+8)+8)+8)+8)+8).toNat),gr v (a+(((((((((n+8)+8)+8)+8)+8)+8)+8)+8)+8).toNat),gr v (a+((((((((((n+8)+8)+8)+8)+8)+8)+8)+8)+8)+8).toNat),gr v (a+(((((((((((n+8)+8)+8)+8)+8)+8)+8)+8)+8)+8)+8).toNat),gr v (a+((((((((((((n+8)+8)+8)+8)+8)+8)+8)+8)+8)+8)+8)+8).toNat),gr v (a+(((((((((((((n+8)+8)+8)+8)+8)+8)+8)+8)+8)+8)+8)+8)+8).toNat),gr v (a+((((((((((((((n+8)+8)+8)+8)+8)+8)+8)+8)+8)+8)+8)+8)+8)+8).toNat),gr v (a+(((((((((((((((n+8)+8)+8)+8)+8)+8)+8)+8)+8)+8)+8)+8)+8)+8)+8).toNat)]
structure vZ where
 (h:bp)(aY c1 d0 d1:BitVec 64)(ku:Int)(o3:U 8)(kw:Int)(kb v:U 8)(X:U 64)(o iy:Nat)(n:Int)
def aep(d:vZ):aI×List ah:=
 match d with
 |⟨h,a,b,e,f,g,i,j,k,v,X,l,m,n⟩=>(⟨[.P 0,.ref (.ptr 0 (.c 8)),.num (.int .u64 (.c 0)),.ref (.sl 1 (.s l) (.s m) none),.aa,.aa,.aa,.aa,.P 2,.num (.au a),.num (.au b),.aq n,.aa,.aa,.aa,.aa,.aa,.aa,.aa,.aa,.aa,.aa,.aa,.aa,.aa,.aa,.aa,.aa,.aa,.aa,.aa],[]⟩,[⟨.gen (cZ h e f g i j k),.own⟩,⟨.ag v,.ro⟩,⟨.gen (dS X 16),.own⟩])
def we(d:vZ):vZ:=
 match d with
 |⟨h,b,c,e,f,g,i,j,k,v,_,a,l,n⟩=>⟨cm h (b+128#64) c 0#64 (yj v a n),b+128#64,c,e,f,g,i,j,k,v,yj v a n,a,l,((((((((((((((((n+8)+8)+8)+8)+8)+8)+8)+8)+8)+8)+8)+8)+8)+8)+8)+8)⟩
def KJ(a:aI)(b:List ah):Option vZ:=
 match a with
 |⟨[.ref (.ptr 0 (.c 0)),.ref (.ptr 0 (.c 8)),.num (.int .u64 (.c 0)),.ref (.sl 1 (.s d) (.s e) none),.atom .aa,.atom .aa,.atom .aa,.atom .aa,.ref (.ptr 2 (.c 0)),.num (.au f),.num (.au g),.num (.int .i64 (.s n)),.atom .aa,.atom .aa,.atom .aa,.atom .aa,.atom .aa,.atom .aa,.atom .aa,.atom .aa,.atom .aa,.atom .aa,.atom .aa,.atom .aa,.atom .aa,.atom .aa,.atom .aa,.atom .aa,.atom .aa,.atom .aa,.atom .aa],[]⟩=>
  match b with
  |[⟨.gen i,.own⟩,⟨.ag v,.ro⟩,⟨.gen j,.own⟩]=>
   (match tO i with
   |some (h,k,l,m,o,p,q)=>
   (match jZ 16 j with
   |some X=>some ⟨h,f,g,k,l,m,o,p,q,v,X,d,e,n⟩|none=>none)
   |none=>none)
  |_=>none
 |_=>none
def lE:eN vZ where
 d0:=⟨⟨0,0,0,0,0,0,0,0⟩,0,0,0,0,0,0,0,0,0,0,0,0,0⟩
 read:=KJ
 ay:=aep
 next:=we
 rem:=fun⟨_,_,_,_,_,_,_,_,_,_,_,_,a,n⟩=>((a:Int)-n).toNat/128
 aS:=fun⟨_,b,_,_,_,_,_,_,_,v,_,c,a,n⟩=>decide (c+a≤v.n∧a≤1099511627776∧0≤n∧n≤a∧n%128=0∧a%128=0∧(b.toNat:Int)+((a:Int)-n)≤1152921504606846976)
 out:=.exit 0
def bI(n:Int):Nat→Int|0=>n|k+1=>bI n k+8
def Gp(n:Int):∀k:Nat,bI n k=n+8*k|0=>by unfold bI;omega|k+1=>by unfold bI;rw[Gp n k];omega
def aeq(h:bp)(c d e f:BitVec 64)(g:Int)(i:U 8)(j:Int)(k v:U 8)(X:U 64)(b a:Nat)(n:Int):lE.cB ⟨h,c,d,e,f,g,i,j,k,v,X,b,a,n⟩ (b6 3) (lE.ay (we ⟨h,c,d,e,f,g,i,j,k,v,X,b,a,n⟩)) (bZ vY aQ 122 0) [true,false] .normal [bV (bI n 16),decide ((((b+(((bI n 15)):Int).toNat)+8)≤v.n∧(8≤(a-(((bI n 15)):Int).toNat)∧(a-(((bI n 15)):Int).toNat)≤1099511627776))),((decide (0≤(bI n 15))&&decide ((bI n 15)≤(a:Int)))&&decide ((a:Int)≤(a:Int))),bV (bI n 15),decide ((((b+(((bI n 14)):Int).toNat)+8)≤v.n∧(8≤(a-(((bI n 14)):Int).toNat)∧(a-(((bI n 14)):Int).toNat)≤1099511627776))),((decide (0≤(bI n 14))&&decide ((bI n 14)≤(a:Int)))&&decide ((a:Int)≤(a:Int))),bV (bI n 14),decide ((((b+(((bI n 13)):Int).toNat)+8)≤v.n∧(8≤(a-(((bI n 13)):Int).toNat)∧(a-(((bI n 13)):Int).toNat)≤1099511627776))),((decide (0≤(bI n 13))&&decide ((bI n 13)≤(a:Int)))&&decide ((a:Int)≤(a:Int))),bV (bI n 13),decide ((((b+(((bI n 12)):Int).toNat)+8)≤v.n∧(8≤(a-(((bI n 12)):Int).toNat)∧(a-(((bI n 12)):Int).toNat)≤1099511627776))),((decide (0≤(bI n 12))&&decide ((bI n 12)≤(a:Int)))&&decide ((a:Int)≤(a:Int))),bV (bI n 12),decide ((((b+(((bI n 11)):Int).toNat)+8)≤v.n∧(8≤(a-(((bI n 11)):Int).toNat)∧(a-(((bI n 11)):Int).toNat)≤1099511627776))),((decide (0≤(bI n 11))&&decide ((bI n 11)≤(a:Int)))&&decide ((a:Int)≤(a:Int))),bV (bI n 11),decide ((((b+(((bI n 10)):Int).toNat)+8)≤v.n∧(8≤(a-(((bI n 10)):Int).toNat)∧(a-(((bI n 10)):Int).toNat)≤1099511627776))),((decide (0≤(bI n 10))&&decide ((bI n 10)≤(a:Int)))&&decide ((a:Int)≤(a:Int))),bV (bI n 10),decide ((((b+(((bI n 9)):Int).toNat)+8)≤v.n∧(8≤(a-(((bI n 9)):Int).toNat)∧(a-(((bI n 9)):Int).toNat)≤1099511627776))),((decide (0≤(bI n 9))&&decide ((bI n 9)≤(a:Int)))&&decide ((a:Int)≤(a:Int))),bV (bI n 9),decide ((((b+(((bI n 8)):Int).toNat)+8)≤v.n∧(8≤(a-(((bI n 8)):Int).toNat)∧(a-(((bI n 8)):Int).toNat)≤1099511627776))),((decide (0≤(bI n 8))&&decide ((bI n 8)≤(a:Int)))&&decide ((a:Int)≤(a:Int))),bV (bI n 8),decide ((((b+(((bI n 7)):Int).toNat)+8)≤v.n∧(8≤(a-(((bI n 7)):Int).toNat)∧(a-(((bI n 7)):Int).toNat)≤1099511627776))),((decide (0≤(bI n 7))&&decide ((bI n 7)≤(a:Int)))&&decide ((a:Int)≤(a:Int))),bV (bI n 7),decide ((((b+(((bI n 6)):Int).toNat)+8)≤v.n∧(8≤(a-(((bI n 6)):Int).toNat)∧(a-(((bI n 6)):Int).toNat)≤1099511627776))),((decide (0≤(bI n 6))&&decide ((bI n 6)≤(a:Int)))&&decide ((a:Int)≤(a:Int))),bV (bI n 6),decide ((((b+(((bI n 5)):Int).toNat)+8)≤v.n∧(8≤(a-(((bI n 5)):Int).toNat)∧(a-(((bI n 5)):Int).toNat)≤1099511627776))),((decide (0≤(bI n 5))&&decide ((bI n 5)≤(a:Int)))&&decide ((a:Int)≤(a:Int))),bV (bI n 5),decide ((((b+(((bI n 4)):Int).toNat)+8)≤v.n∧(8≤(a-(((bI n 4)):Int).toNat)∧(a-(((bI n 4)):Int).toNat)≤1099511627776))),((decide (0≤(bI n 4))&&decide ((bI n 4)≤(a:Int)))&&decide ((a:Int)≤(a:Int))),bV (bI n 4),decide ((((b+(((bI n 3)):Int).toNat)+8)≤v.n∧(8≤(a-(((bI n 3)):Int).toNat)∧(a-(((bI n 3)):Int).toNat)≤1099511627776))),((decide (0≤(bI n 3))&&decide ((bI n 3)≤(a:Int)))&&decide ((a:Int)≤(a:Int))),bV (bI n 3),decide ((((b+(((bI n 2)):Int).toNat)+8)≤v.n∧(8≤(a-(((bI n 2)):Int).toNat)∧(a-(((bI n 2)):Int).toNat)≤1099511627776))),((decide (0≤(bI n 2))&&decide ((bI n 2)≤(a:Int)))&&decide ((a:Int)≤(a:Int))),bV (bI n 2),decide ((((b+(((bI n 1)):Int).toNat)+8)≤v.n∧(8≤(a-(((bI n 1)):Int).toNat)∧(a-(((bI n 1)):Int).toNat)≤1099511627776))),((decide (0≤(bI n 1))&&decide ((bI n 1)≤(a:Int)))&&decide ((a:Int)≤(a:Int))),bV (bI n 1),decide ((((b+n.toNat)+8)≤v.n∧(8≤(a-n.toNat)∧(a-n.toNat)≤1099511627776))),((decide (0≤n)&&decide (n≤(a:Int)))&&decide ((a:Int)≤(a:Int))),(decide ((c+(128#64)).toNat<(128#64).toNat)==false),(decide (n<(a:Int))==true)]:=by show _=_;kernel_rfl
def aer(h:bp)(b c d e:BitVec 64)(f:Int)(g:U 8)(i:Int)(j v:U 8)(X:U 64)(k a:Nat)(n:Int):lE.cB ⟨h,b,c,d,e,f,g,i,j,v,X,k,a,n⟩ none (lE.fin ⟨h,b,c,d,e,f,g,i,j,v,X,k,a,n⟩) (bZ vY aQ 122 0) [false] lE.out [(decide (n<(a:Int))==false)]:=by show _=_;kernel_rfl
def aes(a:aI)(b:List ah)(d:vZ)(h:lE.read a b=some d):(a,b)=lE.ay d:=by
 replace h:KJ a b=some d:=h;unfold KJ at h;split at h
 case h_2=>cases h
 split at h
 case h_2=>cases h
 split at h
 case h_2=>cases h
 rename_i c;cases x9 c;split at h
 case h_2=>cases h
 rename_i e;obtain⟨rfl,_⟩:=kW e;cases h;rfl
def aet:dc Tryz.prog bB (aj 122) (bN Tryz.prog 122) (bg Tryz.prog 122 0) (bZ vY aQ 122 0):=iw KI (cK _) 122 0 Rs (by rw[show(cH Tryz.prog 122).length=3 by kernel_rfl];omega)
def aeu:eH Tryz.prog bB (aj 122) (bN Tryz.prog 122) (bg Tryz.prog 122 0) lE.T.told:=by
 refine lE.j0 aet (by intro k p;have p:k∈([]:List ah):=p;cases p) (by intro h;cases h) aes ?_ ?_
 ·rintro⟨h,b,d,e,f,g,i,j,l,v,X,c,a,n⟩ s m o;have m:=aZ m;have o:((a:Int)-n).toNat/128=s+1:=o;have q:(128#64).toNat=128:=rfl;have t:(b+128#64).toNat=b.toNat+128:=by have:=b.isLt;rw[eD,q];omega
  have u:lE.next ⟨h,b,d,e,f,g,i,j,l,v,X,c,a,n⟩=we ⟨h,b,d,e,f,g,i,j,l,v,X,c,a,n⟩:=rfl;rw[u];refine⟨⟨[true,false],(b6 3),_,aeq h b d e f g i j l v X c a n,?_⟩,?_,?_,(show(lE.ay (we ⟨h,b,d,e,f,g,i,j,l,v,X,c,a,n⟩)).2.length=3 by kernel_rfl).trans (show(lE.ay ⟨h,b,d,e,f,g,i,j,l,v,X,c,a,n⟩).2.length=3 by kernel_rfl).symm⟩
  ·repeat'(refine ax ?_ ?_)
   all_goals first|exact aV|rfl|(simp only[cz,Gp]<;>omega)
  ·have r:lE.aS (we ⟨h,b,d,e,f,g,i,j,l,v,X,c,a,n⟩)=decide (c+a≤v.n∧a≤1099511627776∧0≤(bI n 16)∧(bI n 16)≤a∧(bI n 16)%128=0∧a%128=0∧((b+128#64:BitVec 64).toNat:Int)+((a:Int)-((bI n 16):Int))≤1152921504606846976):=by kernel_rfl
   refine r.trans (bl ?_);simp only[Gp];omega
  ·have r:lE.rem (we ⟨h,b,d,e,f,g,i,j,l,v,X,c,a,n⟩)=(((a:Int)-((bI n 16):Int)).toNat/128):=by kernel_rfl
   refine r.trans ?_;simp only[Gp];omega
 ·rintro⟨h,b,d,e,f,g,i,j,l,v,X,c,a,n⟩ m o;have m:=aZ m;have o:((a:Int)-n).toNat/128=0:=o;have q:(128#64).toNat=128:=rfl;have t:(b+128#64).toNat=b.toNat+128:=by have:=b.isLt;rw[eD,q];omega
  refine⟨[false],none,_,aer h b d e f g i j l v X c a n,?_⟩
  repeat'(refine ax ?_ ?_)
  all_goals first|exact aV|rfl|(simp only[cz]<;>omega)
def KL:cP:=lE.T.told
def aev:Told 122 0 KL:=aeu.run
def tT:FuncId→Nat→Option cP|122,3=>some KL|_,_=>none
def aew:(cH Tryz.prog 122).length=3:=by kernel_rfl
def aex(spec:FuncId→Option aA.Spec):c6 (de spec tT) bB:=by
 refine c6.of fun f=>?_;by_cases c:f=122
 ·subst c;refine .inr ⟨by kernel_rfl,fun i hi d a=>?_⟩;have hi:i<(cH Tryz.prog 122).length:=hi;rw[aew]at hi;have e:i=0∨i=1∨i=2:=by omega
  rcases e with rfl|rfl|rfl
  ·have b:(bX (bg Tryz.prog 122 0)).bind (tT 122)=some KL:=by kernel_rfl
   obtain rfl:=dV (b.symm.trans a);exact aev
  ·have b:(bX (bg Tryz.prog 122 1)).bind (tT 122)=none:=by kernel_rfl
   have a:(bX (bg Tryz.prog 122 1)).bind (tT 122)=some d:=a;rw[b]at a;cases a
  ·have b:(bX (bg Tryz.prog 122 2)).bind (tT 122)=none:=by kernel_rfl
   have a:(bX (bg Tryz.prog 122 2)).bind (tT 122)=some d:=a;rw[b]at a;cases a
 ·refine .inl fun r=>?_
  show tT f r=none;unfold tT;split
  ·exact absurd rfl c
  ·rfl
def Si(a:U 8):jY (cy a) 128=jY a 128:=by
 refine If fun i hi=>?_;have hi:=oy.1 hi;have b:(cy a).l.getD i 0#8=a.l.getD i 0#8:=by
  show((List.range 128).map fun i=>a.l.getD i 0#8).getD i 0#8=_;simp[dZ,hi]
 rw[b]
def gN(c:BitVec 64):Nat→BitVec 64|0=>c|k+1=>gN c k+128#64
def ji(h:bp)(a b:BitVec 64)(v:U 8)(c:Nat):Nat→bp|0=>h|k+1=>cm (ji h a b v c k) (gN a k+128#64) b 0#64 (e8 v (c+128*k))
def aey(v:U 8)(a n:Nat):yj v a (n:Int)=e8 v (a+n):=by
 unfold yj e8 gr;simp only[show a+((n:Int)).toNat=a+n+0 by omega,show a+(((n:Int)+8)).toNat=a+n+8 by omega,show a+((((n:Int)+8)+8)).toNat=a+n+16 by omega,show a+(((((n:Int)+8)+8)+8)).toNat=a+n+24 by omega,show a+((((((n:Int)+8)+8)+8)+8)).toNat=a+n+32 by omega,show a+(((((((n:Int)+8)+8)+8)+8)+8)).toNat=a+n+40 by omega,show a+((((((((n:Int)+8)+8)+8)+8)+8)+8)).toNat=a+n+48 by omega,show a+(((((((((n:Int)+8)+8)+8)+8)+8)+8)+8)).toNat=a+n+56 by omega,show a+((((((((((n:Int)+8)+8)+8)+8)+8)+8)+8)+8)).toNat=a+n+64 by omega,show a+(((((((((((n:Int)+8)+8)+8)+8)+8)+8)+8)+8)+8)).toNat=a+n+72 by omega,show a+((((((((((((n:Int)+8)+8)+8)+8)+8)+8)+8)+8)+8)+8)).toNat=a+n+80 by omega,show a+(((((((((((((n:Int)+8)+8)+8)+8)+8)+8)+8)+8)+8)+8)+8)).toNat=a+n+88 by omega,show a+((((((((((((((n:Int)+8)+8)+8)+8)+8)+8)+8)+8)+8)+8)+8)+8)).toNat=a+n+96 by omega,show a+(((((((((((((((n:Int)+8)+8)+8)+8)+8)+8)+8)+8)+8)+8)+8)+8)+8)).toNat=a+n+104 by omega,show a+((((((((((((((((n:Int)+8)+8)+8)+8)+8)+8)+8)+8)+8)+8)+8)+8)+8)+8)).toNat=a+n+112 by omega,show a+(((((((((((((((((n:Int)+8)+8)+8)+8)+8)+8)+8)+8)+8)+8)+8)+8)+8)+8)+8)).toNat=a+n+120 by omega,iF,Nat.reduceAdd]
def jj(h:bp)(a b:BitVec 64)(d:Int)(e:U 8)(f:Int)(g v:U 8)(i c:Nat):vZ:=iter we (((c:Int)-0).toNat/128) ⟨h,a,b,a,b,d,cy e,f,cy g,v,U.of (List.replicate 16 0#64),i,c,0⟩
def Sj(h:bp)(b c d e:BitVec 64)(f:Int)(g:U 8)(i:Int)(j v:U 8)(X:U 64)(a l:Nat):∀k:Nat,∃m,iter we k ⟨h,b,c,d,e,f,g,i,j,v,X,a,l,0⟩=⟨ji h b c v a k,gN b k,c,d,e,f,g,i,j,v,m,a,l,((128*k:Nat):Int)⟩
 |0=>⟨X,rfl⟩|k+1=>by
  obtain⟨m,n⟩:=Sj h b c d e f g i j v X a l k;refine⟨yj v a ((128*k:Nat):Int),?_⟩;rw[gB,n]
  show(⟨cm (ji h b c v a k) (gN b k+128#64) c 0#64 (yj v a ((128*k:Nat):Int)),gN b k+128#64,c,d,e,f,g,i,j,v,yj v a ((128*k:Nat):Int),a,l,(((((((((((((((((128*k:Nat):Int)+8)+8)+8)+8)+8)+8)+8)+8)+8)+8)+8)+8)+8)+8)+8)+8⟩:vZ)=_;rw[aey,show(((((((((((((((((128*k:Nat):Int)+8)+8)+8)+8)+8)+8)+8)+8)+8)+8)+8)+8)+8)+8)+8)+8=((128*(k+1):Nat):Int) by omega];rfl
def aez(h:bp)(b c:BitVec 64)(d:Int)(e:U 8)(f:Int)(g v:U 8)(i a:Nat):(jj h b c d e f g v i a).h=ji h b c v i (a/128)∧(jj h b c d e f g v i a).aY=gN b (a/128)∧(jj h b c d e f g v i a).c1=c∧(jj h b c d e f g v i a).ku=d∧(jj h b c d e f g v i a).o3=cy e∧(jj h b c d e f g v i a).kw=f∧(jj h b c d e f g v i a).kb=cy g:=by
 obtain⟨k,j⟩:=Sj h b c b c d (cy e) f (cy g) v (U.of (List.replicate 16 0#64)) i a (a/128);unfold jj;rw[show((a:Int)-0).toNat=a by omega,j];exact⟨rfl,rfl,rfl,rfl,rfl,rfl,rfl⟩
def aeA(h:bp)(a b:BitVec 64)(c:Int)(d:U 8)(e:Int)(f:U 8):cZ h a b c (cy d) e (cy f)=cZ h a b c d e f:=by
 unfold cZ;rw[Si,Si]
structure KM where
 (h:bp)(aY c1:BitVec 64)(ku:Int)(o3:U 8)(kw:Int)(kb v:U 8)(o iy:Nat)
def KN(a:List af)(b:List ah):Option KM:=
 match a with
 |[.ref (.ptr 0 (.c 0)),.ref (.ptr 0 (.c 8)),.num (.int .u64 (.c 0)),.ref (.sl 1 (.s d) (.s e) none)]=>
  match b with
  |[⟨.gen f,.own⟩,⟨.ag v,.ro⟩]=>
   (match tO f with
   |some (h,g,i,j,k,l,m)=>some ⟨h,g,i,j,k,l,m,v,d,e⟩|none=>none)
  |_=>none
 |_=>none
def sx:bT KM where
 d0:=⟨⟨0,0,0,0,0,0,0,0⟩,0,0,0,0,0,0,0,0,0⟩
 read:=KN
 args:=fun⟨_,_,_,_,_,_,_,_,d,a⟩=>[.P 0,.ref (.ptr 0 (.c 8)),.num (.int .u64 (.c 0)),.ref (.sl 1 (.s d) (.s a) none)]
 heap:=fun⟨h,b,e,f,g,i,j,v,_,_⟩=>[⟨.gen (cZ h b e f g i j),.own⟩,⟨.ag v,.ro⟩]
 out:=fun⟨h,b,e,f,g,i,j,v,d,a⟩=>[⟨.gen (cZ (ji h b e v d (a/128)) (gN b (a/128)) e f g i j),.own⟩,⟨.ag v,.ro⟩]
 val:=fun⟨_,_,_,_,_,_,_,_,_,_⟩=>(.bx [])
 aS:=fun⟨_,b,_,_,_,_,_,v,d,a⟩=>decide (d+a≤v.n∧a≤1099511627776∧a%128=0∧b.toNat+a≤1152921504606846976)
def aeB(h:bp)(a b:BitVec 64)(c:Int)(d:U 8)(e:Int)(f v:U 8)(g i:Nat):sx.cB ⟨h,a,b,c,d,e,f,v,g,i⟩ (b6 2) (bY vY tT 122) [] [⟨.gen (cZ (jj h a b c d e f v g i).h (jj h a b c d e f v g i).aY (jj h a b c d e f v g i).c1 (jj h a b c d e f v g i).ku (jj h a b c d e f v g i).o3 (jj h a b c d e f v g i).kw (jj h a b c d e f v g i).kb),.own⟩,⟨.ag v,.ro⟩] (.bx []) [lE.aS ⟨h,a,b,a,b,c,cy d,e,cy f,v,U.of (List.replicate 16 0#64),g,i,0⟩]:=by show _=_;kernel_rfl
def aeC(a:List af)(b:List ah)(d:KM)(h:sx.read a b=some d):a=sx.args d∧b=sx.heap d:=by
 replace h:KN a b=some d:=h;unfold KN at h;split at h
 case h_2=>cases h
 split at h
 case h_2=>cases h
 split at h
 case h_2=>cases h
 rename_i c;cases x9 c;cases h;exact⟨rfl,rfl⟩
def Sk:br 122 sx.spec:=by
 refine sx.ok (dm KI (aex _)) aeC ?_;rintro⟨h,b,c,e,f,g,i,v,d,a⟩ j;have j:=aZ j;have k:sx.out ⟨h,b,c,e,f,g,i,v,d,a⟩=[⟨.gen (cZ ((jj h b c e f g i v d a)).h ((jj h b c e f g i v d a)).aY ((jj h b c e f g i v d a)).c1 ((jj h b c e f g i v d a)).ku ((jj h b c e f g i v d a)).o3 ((jj h b c e f g i v d a)).kw ((jj h b c e f g i v d a)).kb),.own⟩,⟨.ag v,.ro⟩]:=by
  obtain⟨l,m,o,p,q,r,s⟩:=aez h b c e f g i v d a;rw[l,m,o,p,q,r,s,aeA];rfl
 have ev:sx.val ⟨h,b,c,e,f,g,i,v,d,a⟩=(.obj .bx []):=by
  rfl
 rw[k,ev];refine⟨[],(b6 2),_,aeB h b c e f g i v d a,?_⟩;refine ax ?_ aV;refine(show lE.aS ⟨h,b,c,b,c,e,cy f,g,cy i,v,U.of (List.replicate 16 0#64),d,a,0⟩=decide (d+a≤v.n∧a≤1099511627776∧(0:Int)≤0∧(0:Int)≤(a:Nat)∧(0:Int)%128=0∧a%128=0∧(b.toNat:Int)+((a:Int)-0)≤1152921504606846976) by kernel_rfl).trans (bl ?_);omega
def Sl:aA.Spec:=fK sx.spec (fK vN.spec sq.spec)
def aeD:br 122 Sl:=dy.or Sk (dy.or Rv acA)
def sA:FuncId→Option aA.Spec|122=>some Sl|_=>none
def aeE:∀f a,sA f=some a→br f a:=by
 intro f a h;unfold sA at h;split at h
 ·cases h;exact aeD
 ·cases h
def gx(b:U 8)(a:Int)(v:U 8)(c n:Nat):U 8:=(cy b).over (11+a.toNat*1-11) (v.sub c (Nat.min n (128-a.toNat)))
def gw(a v:U 8)(b n:Nat):U 8:=(cy a).over 0 (v.sub b (Nat.min n 128))
def iz(n:Nat):Int:=((Nat.min n 128:Nat):Int)
def aO(n:Nat):Nat:=(n-1)/128
def fN(h:bp)(b c:BitVec 64)(f:U 8)(a:Int)(v:U 8)(d e:Nat):bp:=
 if 0<a then
  if(e:Int)≤128-a then h
  else ji (cm h (b+128#64) c 0#64 (e8 (gx f a v d (128-a).toNat) 0)) (b+128#64) c v (d+(128-a).toNat) (aO (e-(128-a).toNat))
 else ji h b c v d (aO e)
def bK(a:BitVec 64)(b:Int)(c:Nat):BitVec 64:=
 if 0<b then
  if(c:Int)≤128-b then a
  else gN (a+128#64) (aO (c-(128-b).toNat))
 else gN a (aO c)
def fo(c:U 8)(a:Int)(v:U 8)(d b:Nat):U 8:=
 if 0<a then
  if(b:Int)≤128-a then gx c a v d b
  else gw (cy (gx c a v d (128-a).toNat)) v (d+(128-a).toNat+128*aO (b-(128-a).toNat)) (b-(128-a).toNat-128*aO (b-(128-a).toNat))
 else if 0<b then gw c v (d+128*aO b) (b-128*aO b)else c
def an(b:Int)(a:Nat):Int:=
 if 0<b then
  if(a:Int)≤128-b then b+a
  else(((a-(128-b).toNat)-128*aO (a-(128-b).toNat):Nat):Int)
 else((a-128*aO a:Nat):Int)
structure KO where
 (h:bp)(aY c1:BitVec 64)(ku:Int)(o3:U 8)(kw:Int)(kb v:U 8)(o iy:Nat)
def KP(a:List af)(b:List ah):Option KO:=
 match a with
 |[.ref (.ptr 0 (.c 0)),.ref (.sl 1 (.s d) (.s e) none)]=>
  match b with
  |[⟨.gen f,.own⟩,⟨.ag v,.ro⟩]=>
   (match tO f with
   |some (h,g,i,j,k,l,m)=>some ⟨h,g,i,j,k,l,m,v,d,e⟩|none=>none)
  |_=>none
 |_=>none
def iQ:bT KO where
 d0:=⟨⟨0,0,0,0,0,0,0,0⟩,0,0,0,0,0,0,0,0,0⟩
 read:=KP
 args:=fun⟨_,_,_,_,_,_,_,_,c,a⟩=>[.P 0,.ref (.sl 1 (.s c) (.s a) none)]
 heap:=fun⟨h,d,e,g,f,b,i,v,_,_⟩=>[⟨.gen (cZ h d e g f b i),.own⟩,⟨.ag v,.ro⟩]
 out:=fun⟨h,d,e,g,f,b,i,v,c,a⟩=>[⟨.gen (cZ (fN h d e f b v c a) (bK d b a) e g (fo f b v c a) (an b a) i),.own⟩,⟨.ag v,.ro⟩]
 val:=fun⟨_,_,_,_,_,_,_,_,_,a⟩=>(.obj .bx [.aq (a:Int),.atom .fC])
 aS:=fun⟨_,d,_,_,_,b,_,v,c,a⟩=>decide (0≤b∧b≤128∧c+a≤v.n∧a≤1099511627776∧d.toNat+a+256≤1152921504606846976)
def aeF(a:List af)(b:List ah)(d:KO)(h:iQ.read a b=some d):a=iQ.args d∧b=iQ.heap d:=by
 replace h:KP a b=some d:=h;unfold KP at h;split at h
 case h_2=>cases h
 split at h
 case h_2=>cases h
 split at h
 case h_2=>cases h
 rename_i c;cases x9 c;cases h;exact⟨rfl,rfl⟩
def aeG(h:bp)(c d:BitVec 64)(e:Int)(f:U 8)(b:Int)(g v:U 8)(i a:Nat):iQ.cB ⟨h,c,d,e,f,b,g,v,i,a⟩ (b6 2) (bY sA aQ 119) (bE 3 0) [⟨.gen (cZ h c d e f b g),.own⟩,⟨.ag v,.ro⟩] (.obj .bx [.aq (a:Int),.atom .fC]) [(decide (0<(a:Int))==false),(decide (128<(a:Int))==false),(decide (0<b)==false)]:=by show _=_;kernel_rfl
def aeH(h:bp)(d e:BitVec 64)(f:Int)(g:U 8)(b:Int)(i v:U 8)(c a:Nat):iQ.cB ⟨h,d,e,f,g,b,i,v,c,a⟩ (b6 2) (bY sA aQ 119) (bE 3 4) [⟨.gen (cZ h d e f (gw g v c a) (b+iz a) i),.own⟩,⟨.ag v,.ro⟩] (.obj .bx [.aq (a:Int),.atom .fC]) [bV (b+(((Nat.min a (128:Nat)):Nat):Int)),decide (((11:Nat)≤(11+0)∧((11+0)+(Nat.min a (128:Nat)))≤139)),decide ((c+(Nat.min a (128:Nat)))≤v.n),(decide (0<(a:Int))==true),(decide (128<(a:Int))==false),(decide (0<b)==false)]:=by show _=_;kernel_rfl
def aeI(h:bp)(c e:BitVec 64)(f:Int)(g:U 8)(d:Int)(i v:U 8)(b a:Nat):iQ.cB ⟨h,c,e,f,g,d,i,v,b,a⟩ (b6 2) (bY sA aQ 119) (bE 4 10) [⟨.gen (cZ (ji h c e v b ((bk .i64 (a:Int) 127).toNat/128)) (gN c ((bk .i64 (a:Int) 127).toNat/128)) e f (gw (cy g) v (b+(bk .i64 (a:Int) 127).toNat) (a-(bk .i64 (a:Int) 127).toNat)) (d+iz (a-(bk .i64 (a:Int) 127).toNat)) i),.own⟩,⟨.ag v,.ro⟩] (.obj .bx [.aq (a:Int),.atom .fC]) [bV (d+(((Nat.min (a-(((bk .i64 (a:Int) 127)):Int).toNat) (128:Nat)):Nat):Int)),decide (((11:Nat)≤(11+0)∧((11+0)+(Nat.min (a-(((bk .i64 (a:Int) 127)):Int).toNat) (128:Nat)))≤139)),decide (((b+(((bk .i64 (a:Int) 127)):Int).toNat)+(Nat.min (a-(((bk .i64 (a:Int) 127)):Int).toNat) (128:Nat)))≤v.n),(decide ((0:Int)<(((a-(((bk .i64 (a:Int) 127)):Int).toNat):Nat):Int))==true),((decide (0≤(bk .i64 (a:Int) 127))&&decide ((bk .i64 (a:Int) 127)≤(a:Int)))&&decide ((a:Int)≤(a:Int))),decide ((((b+(0:Nat))+((((bk .i64 (a:Int) 127)):Int).toNat-(0:Nat)))≤v.n∧(((((bk .i64 (a:Int) 127)):Int).toNat-(0:Nat))≤1099511627776∧((((((bk .i64 (a:Int) 127)):Int).toNat-(0:Nat))%128)=0∧(c.toNat+((((bk .i64 (a:Int) 127)):Int).toNat-(0:Nat)))≤1152921504606846976)))),(decide (0≤(bk .i64 (a:Int) 127))&&decide ((bk .i64 (a:Int) 127)≤(a:Int))),(((a:Int)==(bk .i64 (a:Int) 127))==false),decide ((0:Int)≤127),(decide (128<(a:Int))==true),(decide (0<d)==false)]:=by show _=_;kernel_rfl
def aeJ(h:bp)(c e:BitVec 64)(f:Int)(g:U 8)(d:Int)(i v:U 8)(b a:Nat):iQ.cB ⟨h,c,e,f,g,d,i,v,b,a⟩ (b6 2) (bY sA aQ 119) (bE 4 14) [⟨.gen (cZ (ji h c e v b (((bk .i64 (a:Int) 127)-128).toNat/128)) (gN c (((bk .i64 (a:Int) 127)-128).toNat/128)) e f (gw (cy g) v (b+((bk .i64 (a:Int) 127)-128).toNat) (a-((bk .i64 (a:Int) 127)-128).toNat)) (d+iz (a-((bk .i64 (a:Int) 127)-128).toNat)) i),.own⟩,⟨.ag v,.ro⟩] (.obj .bx [.aq (a:Int),.atom .fC]) [bV (d+(((Nat.min (a-((((bk .i64 (a:Int) 127)-128)):Int).toNat) (128:Nat)):Nat):Int)),decide (((11:Nat)≤(11+0)∧((11+0)+(Nat.min (a-((((bk .i64 (a:Int) 127)-128)):Int).toNat) (128:Nat)))≤139)),decide (((b+((((bk .i64 (a:Int) 127)-128)):Int).toNat)+(Nat.min (a-((((bk .i64 (a:Int) 127)-128)):Int).toNat) (128:Nat)))≤v.n),(decide ((0:Int)<(((a-((((bk .i64 (a:Int) 127)-128)):Int).toNat):Nat):Int))==true),((decide (0≤((bk .i64 (a:Int) 127)-128))&&decide (((bk .i64 (a:Int) 127)-128)≤(a:Int)))&&decide ((a:Int)≤(a:Int))),decide ((((b+(0:Nat))+(((((bk .i64 (a:Int) 127)-128)):Int).toNat-(0:Nat)))≤v.n∧((((((bk .i64 (a:Int) 127)-128)):Int).toNat-(0:Nat))≤1099511627776∧(((((((bk .i64 (a:Int) 127)-128)):Int).toNat-(0:Nat))%128)=0∧(c.toNat+(((((bk .i64 (a:Int) 127)-128)):Int).toNat-(0:Nat)))≤1152921504606846976)))),(decide (0≤((bk .i64 (a:Int) 127)-128))&&decide (((bk .i64 (a:Int) 127)-128)≤(a:Int))),bV ((bk .i64 (a:Int) 127)-128),(((a:Int)==(bk .i64 (a:Int) 127))==true),decide ((0:Int)≤127),(decide (128<(a:Int))==true),(decide (0<d)==false)]:=by show _=_;kernel_rfl
def aeK(h:bp)(d e:BitVec 64)(f:Int)(g:U 8)(a:Int)(i v:U 8)(c b:Nat):iQ.cB ⟨h,d,e,f,g,a,i,v,c,b⟩ (b6 2) (bY sA aQ 119) [true,true] [⟨.gen (cZ h d e f (gx g a v c b) (a+((Nat.min b (128-a.toNat):Nat):Int)) i),.own⟩,⟨.ag v,.ro⟩] (.obj .bx [.aq (b:Int),.atom .fC]) [bV (a+(((Nat.min b ((128:Nat)-a.toNat)):Nat):Int)),decide (((11:Nat)≤(11+(a.toNat*1))∧((11+(a.toNat*1))+(Nat.min b ((128:Nat)-a.toNat)))≤139)),decide ((c+(Nat.min b ((128:Nat)-a.toNat)))≤v.n),((decide (0≤a)&&decide (a≤(128:Int)))&&true),(decide ((b:Int)≤(128-a))==true),bV (128-a),(decide (0<a)==true)]:=by show _=_;kernel_rfl
def aeL(h:bp)(d e:BitVec 64)(g:Int)(f:U 8)(a:Int)(i v:U 8)(c b:Nat):iQ.cB ⟨h,d,e,g,f,a,i,v,c,b⟩ (b6 2) (bY sA aQ 119) (bE 4 9) [⟨.gen (cZ (cm h (d+128#64) e 0#64 (e8 (gx f a v c (128-a).toNat) 0)) (d+128#64) e g (gw (cy (gx f a v c (128-a).toNat)) v (c+(128-a).toNat) (b-(128-a).toNat)) (0+iz (b-(128-a).toNat)) i),.own⟩,⟨.ag v,.ro⟩] (.obj .bx [.aq (b:Int),.atom .fC]) [bV (0+(((Nat.min (b-(((128-a)):Int).toNat) (128:Nat)):Nat):Int)),decide (((11:Nat)≤(11+0)∧((11+0)+(Nat.min (b-(((128-a)):Int).toNat) (128:Nat)))≤139)),decide (((c+(((128-a)):Int).toNat)+(Nat.min (b-(((128-a)):Int).toNat) (128:Nat)))≤v.n),(decide ((0:Int)<(((b-(((128-a)):Int).toNat):Nat):Int))==true),(decide ((128:Int)<(((b-(((128-a)):Int).toNat):Nat):Int))==false),((decide ((0:Int)≤(128-a))&&decide ((128-a)≤(b:Int)))&&decide ((b:Int)≤(b:Int))),decide ((¬(d+128#64).toNat<(128#64).toNat)),decide (((11:Nat)≤(11+(a.toNat*1))∧((11+(a.toNat*1))+(Nat.min ((((128-a)):Int).toNat-(0:Nat)) ((128:Nat)-a.toNat)))≤139)),decide (((c+(0:Nat))+(Nat.min ((((128-a)):Int).toNat-(0:Nat)) ((128:Nat)-a.toNat)))≤v.n),(decide ((0:Int)≤(128-a))&&decide ((128-a)≤(b:Int))),((decide (0≤a)&&decide (a≤(128:Int)))&&true),(decide ((b:Int)≤(128-a))==false),bV (128-a),(decide (0<a)==true)]:=by show _=_;kernel_rfl
def aeM(h:bp)(d e:BitVec 64)(g:Int)(f:U 8)(a:Int)(i v:U 8)(c b:Nat):iQ.cB ⟨h,d,e,g,f,a,i,v,c,b⟩ (b6 2) (bY sA aQ 119) (bE 5 21) [⟨.gen (cZ (ji (cm h (d+128#64) e 0#64 (e8 (gx f a v c (128-a).toNat) 0)) (d+128#64) e v (c+(128-a).toNat) ((bk .i64 (((b-(128-a).toNat):Nat):Int) 127).toNat/128)) (gN (d+128#64) ((bk .i64 (((b-(128-a).toNat):Nat):Int) 127).toNat/128)) e g (gw (cy (cy (gx f a v c (128-a).toNat))) v ((c+(128-a).toNat)+(bk .i64 (((b-(128-a).toNat):Nat):Int) 127).toNat) ((b-(128-a).toNat)-(bk .i64 (((b-(128-a).toNat):Nat):Int) 127).toNat)) (0+iz ((b-(128-a).toNat)-(bk .i64 (((b-(128-a).toNat):Nat):Int) 127).toNat)) i),.own⟩,⟨.ag v,.ro⟩] (.obj .bx [.aq (b:Int),.atom .fC]) [bV (0+(((Nat.min ((((((b-(((128-a)):Int).toNat):Nat):Int)):Int).toNat-(((bk .i64 (((b-(((128-a)):Int).toNat):Nat):Int) 127)):Int).toNat) (128:Nat)):Nat):Int)),decide (((11:Nat)≤(11+0)∧((11+0)+(Nat.min ((((((b-(((128-a)):Int).toNat):Nat):Int)):Int).toNat-(((bk .i64 (((b-(((128-a)):Int).toNat):Nat):Int) 127)):Int).toNat) (128:Nat)))≤139)),decide ((((c+(((128-a)):Int).toNat)+(((bk .i64 (((b-(((128-a)):Int).toNat):Nat):Int) 127)):Int).toNat)+(Nat.min ((((((b-(((128-a)):Int).toNat):Nat):Int)):Int).toNat-(((bk .i64 (((b-(((128-a)):Int).toNat):Nat):Int) 127)):Int).toNat) (128:Nat)))≤v.n),(decide ((0:Int)<((((((((b-(((128-a)):Int).toNat):Nat):Int)):Int).toNat-(((bk .i64 (((b-(((128-a)):Int).toNat):Nat):Int) 127)):Int).toNat):Nat):Int))==true),((decide (0≤(bk .i64 (((b-(((128-a)):Int).toNat):Nat):Int) 127))&&decide ((bk .i64 (((b-(((128-a)):Int).toNat):Nat):Int) 127)≤(((b-(((128-a)):Int).toNat):Nat):Int)))&&decide ((((b-(((128-a)):Int).toNat):Nat):Int)≤(((b-(((128-a)):Int).toNat):Nat):Int))),decide (((((c+(((128-a)):Int).toNat)+(0:Nat))+((((bk .i64 (((b-(((128-a)):Int).toNat):Nat):Int) 127)):Int).toNat-(0:Nat)))≤v.n∧(((((bk .i64 (((b-(((128-a)):Int).toNat):Nat):Int) 127)):Int).toNat-(0:Nat))≤1099511627776∧((((((bk .i64 (((b-(((128-a)):Int).toNat):Nat):Int) 127)):Int).toNat-(0:Nat))%128)=0∧((d+(128#64)).toNat+((((bk .i64 (((b-(((128-a)):Int).toNat):Nat):Int) 127)):Int).toNat-(0:Nat)))≤1152921504606846976)))),((true&&decide (0≤(bk .i64 (((b-(((128-a)):Int).toNat):Nat):Int) 127)))&&decide ((bk .i64 (((b-(((128-a)):Int).toNat):Nat):Int) 127)≤(((b-(((128-a)):Int).toNat):Nat):Int))),(((((b-(((128-a)):Int).toNat):Nat):Int)==(bk .i64 (((b-(((128-a)):Int).toNat):Nat):Int) 127))==false),decide ((0:Int)≤127),(decide ((128:Int)<(((b-(((128-a)):Int).toNat):Nat):Int))==true),((decide ((0:Int)≤(128-a))&&decide ((128-a)≤(b:Int)))&&decide ((b:Int)≤(b:Int))),decide ((¬(d+128#64).toNat<(128#64).toNat)),decide (((11:Nat)≤(11+(a.toNat*1))∧((11+(a.toNat*1))+(Nat.min ((((128-a)):Int).toNat-(0:Nat)) ((128:Nat)-a.toNat)))≤139)),decide (((c+(0:Nat))+(Nat.min ((((128-a)):Int).toNat-(0:Nat)) ((128:Nat)-a.toNat)))≤v.n),(decide ((0:Int)≤(128-a))&&decide ((128-a)≤(b:Int))),((decide (0≤a)&&decide (a≤(128:Int)))&&true),(decide ((b:Int)≤(128-a))==false),bV (128-a),(decide (0<a)==true)]:=by show _=_;kernel_rfl
def aeN(h:bp)(d e:BitVec 64)(g:Int)(f:U 8)(a:Int)(i v:U 8)(c b:Nat):iQ.cB ⟨h,d,e,g,f,a,i,v,c,b⟩ (b6 2) (bY sA aQ 119) (bE 5 29) [⟨.gen (cZ (ji (cm h (d+128#64) e 0#64 (e8 (gx f a v c (128-a).toNat) 0)) (d+128#64) e v (c+(128-a).toNat) (((bk .i64 (((b-(128-a).toNat):Nat):Int) 127)-128).toNat/128)) (gN (d+128#64) (((bk .i64 (((b-(128-a).toNat):Nat):Int) 127)-128).toNat/128)) e g (gw (cy (cy (gx f a v c (128-a).toNat))) v ((c+(128-a).toNat)+((bk .i64 (((b-(128-a).toNat):Nat):Int) 127)-128).toNat) ((b-(128-a).toNat)-((bk .i64 (((b-(128-a).toNat):Nat):Int) 127)-128).toNat)) (0+iz ((b-(128-a).toNat)-((bk .i64 (((b-(128-a).toNat):Nat):Int) 127)-128).toNat)) i),.own⟩,⟨.ag v,.ro⟩] (.obj .bx [.aq (b:Int),.atom .fC]) [bV (0+(((Nat.min ((((((b-(((128-a)):Int).toNat):Nat):Int)):Int).toNat-((((bk .i64 (((b-(((128-a)):Int).toNat):Nat):Int) 127)-128)):Int).toNat) (128:Nat)):Nat):Int)),decide (((11:Nat)≤(11+0)∧((11+0)+(Nat.min ((((((b-(((128-a)):Int).toNat):Nat):Int)):Int).toNat-((((bk .i64 (((b-(((128-a)):Int).toNat):Nat):Int) 127)-128)):Int).toNat) (128:Nat)))≤139)),decide ((((c+(((128-a)):Int).toNat)+((((bk .i64 (((b-(((128-a)):Int).toNat):Nat):Int) 127)-128)):Int).toNat)+(Nat.min ((((((b-(((128-a)):Int).toNat):Nat):Int)):Int).toNat-((((bk .i64 (((b-(((128-a)):Int).toNat):Nat):Int) 127)-128)):Int).toNat) (128:Nat)))≤v.n),(decide ((0:Int)<((((((((b-(((128-a)):Int).toNat):Nat):Int)):Int).toNat-((((bk .i64 (((b-(((128-a)):Int).toNat):Nat):Int) 127)-128)):Int).toNat):Nat):Int))==true),((decide (0≤((bk .i64 (((b-(((128-a)):Int).toNat):Nat):Int) 127)-128))&&decide (((bk .i64 (((b-(((128-a)):Int).toNat):Nat):Int) 127)-128)≤(((b-(((128-a)):Int).toNat):Nat):Int)))&&decide ((((b-(((128-a)):Int).toNat):Nat):Int)≤(((b-(((128-a)):Int).toNat):Nat):Int))),decide (((((c+(((128-a)):Int).toNat)+(0:Nat))+(((((bk .i64 (((b-(((128-a)):Int).toNat):Nat):Int) 127)-128)):Int).toNat-(0:Nat)))≤v.n∧((((((bk .i64 (((b-(((128-a)):Int).toNat):Nat):Int) 127)-128)):Int).toNat-(0:Nat))≤1099511627776∧(((((((bk .i64 (((b-(((128-a)):Int).toNat):Nat):Int) 127)-128)):Int).toNat-(0:Nat))%128)=0∧((d+(128#64)).toNat+(((((bk .i64 (((b-(((128-a)):Int).toNat):Nat):Int) 127)-128)):Int).toNat-(0:Nat)))≤1152921504606846976)))),((true&&decide (0≤((bk .i64 (((b-(((128-a)):Int).toNat):Nat):Int) 127)-128)))&&decide (((bk .i64 (((b-(((128-a)):Int).toNat):Nat):Int) 127)-128)≤(((b-(((128-a)):Int).toNat):Nat):Int))),bV ((bk .i64 (((b-(((128-a)):Int).toNat):Nat):Int) 127)-128),(((((b-(((128-a)):Int).toNat):Nat):Int)==(bk .i64 (((b-(((128-a)):Int).toNat):Nat):Int) 127))==true),decide ((0:Int)≤127),(decide ((128:Int)<(((b-(((128-a)):Int).toNat):Nat):Int))==true),((decide ((0:Int)≤(128-a))&&decide ((128-a)≤(b:Int)))&&decide ((b:Int)≤(b:Int))),decide ((¬(d+128#64).toNat<(128#64).toNat)),decide (((11:Nat)≤(11+(a.toNat*1))∧((11+(a.toNat*1))+(Nat.min ((((128-a)):Int).toNat-(0:Nat)) ((128:Nat)-a.toNat)))≤139)),decide (((c+(0:Nat))+(Nat.min ((((128-a)):Int).toNat-(0:Nat)) ((128:Nat)-a.toNat)))≤v.n),(decide ((0:Int)≤(128-a))&&decide ((128-a)≤(b:Int))),((decide (0≤a)&&decide (a≤(128:Int)))&&true),(decide ((b:Int)≤(128-a))==false),bV (128-a),(decide (0<a)==true)]:=by show _=_;kernel_rfl
def Sm(n:Nat)(h:n≤1099511627776):bk .i64 (n:Int) 127=((128*(n/128):Nat):Int):=by
 have b:(BitVec.ofInt 64 (n:Int)&&&~~~ BitVec.ofInt 64 127)=(BitVec.ofInt 64 (n:Int)>>>7)<<<7:=by
  apply aoo;intro i hi;have c:(BitVec.ofInt 64 127).getLsbD i=decide (i<7):=by
   show(BitVec.ofNat 64 (2^7-1)).getLsbD i=_;rw[BitVec.getLsbD_ofNat,Nat.testBit_two_pow_sub_one];simp[hi]
  rw[BitVec.getLsbD_and,BitVec.getLsbD_not,c,aop,aoq];by_cases a:i<7
  ·simp[a]
  ·simp[a,hi,show 7+(i-7)=i by omega]
 have d:(BitVec.ofInt 64 (n:Int)).toNat=n:=by rw[uF,gZ];omega
 have e:((BitVec.ofInt 64 (n:Int)>>>7)<<<7).toNat=128*(n/128):=by
  rw[an9,y7,d,Wb,w5];omega
 unfold bk
 show IntKind.i64.wrap (((BitVec.ofInt 64 (n:Int)&&&~~~ BitVec.ofInt 64 127).toNat:Nat):Int)=_;rw[b,e];exact tv .i64 _ (by show(-9223372036854775808:Int)≤_;omega) (by show _≤(9223372036854775807:Int);omega)
def aeO(a:U 8):cy (cy a)=cy a:=by
 have b:(List.range 128).map (fun i=>(cy a).l.getD i 0#8)=(List.range 128).map (fun i=>a.l.getD i 0#8):=by
  refine If fun i hi=>?_;have hi:=oy.1 hi
  show((List.range 128).map fun i=>a.l.getD i 0#8).getD i 0#8=_;simp[dZ,hi]
 show U.of _=U.of _;rw[b]
def Gq(a v:U 8)(b n:Nat):gw (cy a) v b n=gw a v b n:=by
 unfold gw;rw[aeO]
def Sn:br 119 iQ.spec:=by
 refine iQ.ok (dm aeE (cK _)) aeF ?_;rintro⟨h,f,i,k,g,d,l,v,e,c⟩ C;have C:=aZ C;have o:∀a b:Nat,Nat.min a b=min a b:=fun _ _=>rfl;have D:(128#64).toNat=128:=rfl;have H:(f+128#64).toNat=f.toNat+128:=by have:=f.isLt;rw[eD,D];omega
 have w:=Sm c (by omega);have x:=Sm (c-(128-d).toNat) (by omega);by_cases h1:0<d
 ·by_cases h2:(c:Int)≤128-d
  ·have p:fN h f i g d v e c=h:=by
    unfold fN;simp only[av h1,av h2]
   have q:bK f d c=f:=by
    unfold bK;simp only[av h1,av h2]
   have r:fo g d v e c=(gx g d v e c):=by
    unfold fo;simp only[av h1,av h2]
   have s:an d c=(d+((Nat.min c (128-d.toNat):Nat):Int)):=by
    unfold an;simp only[av h1,av h2];rw[o];omega
   have t:iQ.out ⟨h,f,i,k,g,d,l,v,e,c⟩=([⟨.gen (cZ h f i k (gx g d v e c) (d+((Nat.min c (128-d.toNat):Nat):Int)) l),.own⟩,⟨.ag v,.ro⟩]:List ah):=by
    show([⟨.gen (cZ (fN h f i g d v e c) (bK f d c) i k (fo g d v e c) (an d c) l),.own⟩,⟨.ag v,.ro⟩]:List ah)=_;rw[p,q,r,s]
   rw[t];refine⟨[true,true],some [0,1],_,aeK h f i k g d l v e c,?_⟩
   repeat'(refine ax ?_ ?_)
   all_goals first|exact aV|rfl|(simp only[cz,eC,o,w,x]<;>omega)
  ·generalize n:c-(128-d).toNat=j at *;by_cases h3:j≤128
   ·have u:aO j=0:=by unfold aO;omega
    have p:fN h f i g d v e c=(cm h (f+128#64) i 0#64 (e8 (gx g d v e (128-d).toNat) 0)):=by
     unfold fN;simp only[av h1,ak h2,n,u];rfl
    have q:bK f d c=(f+128#64):=by
     unfold bK;simp only[av h1,ak h2,n,u];rfl
    have r:fo g d v e c=(gw (cy (gx g d v e (128-d).toNat)) v (e+(128-d).toNat) j):=by
     unfold fo;simp only[av h1,ak h2,n,u];simp only[Bw,gd,gz]
    have s:an d c=(0+iz j):=by
     unfold an;simp only[av h1,ak h2,n,u];unfold iz;rw[o];omega
    have t:iQ.out ⟨h,f,i,k,g,d,l,v,e,c⟩=([⟨.gen (cZ (cm h (f+128#64) i 0#64 (e8 (gx g d v e (128-d).toNat) 0)) (f+128#64) i k (gw (cy (gx g d v e (128-d).toNat)) v (e+(128-d).toNat) j) (0+iz j) l),.own⟩,⟨.ag v,.ro⟩]:List ah):=by
     show([⟨.gen (cZ (fN h f i g d v e c) (bK f d c) i k (fo g d v e c) (an d c) l),.own⟩,⟨.ag v,.ro⟩]:List ah)=_;rw[p,q,r,s]
    rw[t];have z:=aeL h f i k g d l v e c;rw[n]at z;refine⟨(bE 4 9),some [0,1],_,z,?_⟩
    repeat'(refine ax ?_ ?_)
    all_goals first|exact aV|rfl|(simp only[cz,eC,o,n,w,x]<;>omega)
   ·by_cases h4:(j:Int)=bk .i64 (j:Int) 127
    ·rw[x]at h4;have m:((bk .i64 (j:Int) 127)-128).toNat=128*aO j:=by rw[x];unfold aO;omega
     have y:128*aO j/128=aO j:=by omega
     have B:j-128*aO j≤128∧128*aO j≤j∧1≤j-128*aO j:=by unfold aO;omega
     have p:fN h f i g d v e c=(ji (cm h (f+128#64) i 0#64 (e8 (gx g d v e (128-d).toNat) 0)) (f+128#64) i v (e+(128-d).toNat) (((bk .i64 (j:Int) 127)-128).toNat/128)):=by
      unfold fN;simp only[av h1,ak h2,n,m,y]
     have q:bK f d c=(gN (f+128#64) (((bk .i64 (j:Int) 127)-128).toNat/128)):=by
      unfold bK;simp only[av h1,ak h2,n,m,y]
     have r:fo g d v e c=(gw (cy (cy (gx g d v e (128-d).toNat))) v ((e+(128-d).toNat)+((bk .i64 (j:Int) 127)-128).toNat) (j-((bk .i64 (j:Int) 127)-128).toNat)):=by
      unfold fo;simp only[av h1,ak h2,n,m,Gq]
     have s:an d c=(0+iz (j-((bk .i64 (j:Int) 127)-128).toNat)):=by
      unfold an;simp only[av h1,ak h2,n,m];unfold iz;rw[o];omega
     have t:iQ.out ⟨h,f,i,k,g,d,l,v,e,c⟩=([⟨.gen (cZ (ji (cm h (f+128#64) i 0#64 (e8 (gx g d v e (128-d).toNat) 0)) (f+128#64) i v (e+(128-d).toNat) (((bk .i64 (j:Int) 127)-128).toNat/128)) (gN (f+128#64) (((bk .i64 (j:Int) 127)-128).toNat/128)) i k (gw (cy (cy (gx g d v e (128-d).toNat))) v ((e+(128-d).toNat)+((bk .i64 (j:Int) 127)-128).toNat) (j-((bk .i64 (j:Int) 127)-128).toNat)) (0+iz (j-((bk .i64 (j:Int) 127)-128).toNat)) l),.own⟩,⟨.ag v,.ro⟩]:List ah):=by
      show([⟨.gen (cZ (fN h f i g d v e c) (bK f d c) i k (fo g d v e c) (an d c) l),.own⟩,⟨.ag v,.ro⟩]:List ah)=_;rw[p,q,r,s]
     rw[t];have z:=aeN h f i k g d l v e c;rw[n]at z;refine⟨(bE 5 29),some [0,1],_,z,?_⟩
     repeat'(refine ax ?_ ?_)
     all_goals first|exact aV|rfl|(simp only[cz,eC,o,n,w,x]<;>omega)
    ·rw[x]at h4;have m:(bk .i64 (j:Int) 127).toNat=128*aO j:=by rw[x];unfold aO;omega
     have y:128*aO j/128=aO j:=by omega
     have B:j-128*aO j≤128∧128*aO j≤j∧1≤j-128*aO j:=by unfold aO;omega
     have p:fN h f i g d v e c=(ji (cm h (f+128#64) i 0#64 (e8 (gx g d v e (128-d).toNat) 0)) (f+128#64) i v (e+(128-d).toNat) ((bk .i64 (j:Int) 127).toNat/128)):=by
      unfold fN;simp only[av h1,ak h2,n,m,y]
     have q:bK f d c=(gN (f+128#64) ((bk .i64 (j:Int) 127).toNat/128)):=by
      unfold bK;simp only[av h1,ak h2,n,m,y]
     have r:fo g d v e c=(gw (cy (cy (gx g d v e (128-d).toNat))) v ((e+(128-d).toNat)+(bk .i64 (j:Int) 127).toNat) (j-(bk .i64 (j:Int) 127).toNat)):=by
      unfold fo;simp only[av h1,ak h2,n,m,Gq]
     have s:an d c=(0+iz (j-(bk .i64 (j:Int) 127).toNat)):=by
      unfold an;simp only[av h1,ak h2,n,m];unfold iz;rw[o];omega
     have t:iQ.out ⟨h,f,i,k,g,d,l,v,e,c⟩=([⟨.gen (cZ (ji (cm h (f+128#64) i 0#64 (e8 (gx g d v e (128-d).toNat) 0)) (f+128#64) i v (e+(128-d).toNat) ((bk .i64 (j:Int) 127).toNat/128)) (gN (f+128#64) ((bk .i64 (j:Int) 127).toNat/128)) i k (gw (cy (cy (gx g d v e (128-d).toNat))) v ((e+(128-d).toNat)+(bk .i64 (j:Int) 127).toNat) (j-(bk .i64 (j:Int) 127).toNat)) (0+iz (j-(bk .i64 (j:Int) 127).toNat)) l),.own⟩,⟨.ag v,.ro⟩]:List ah):=by
      show([⟨.gen (cZ (fN h f i g d v e c) (bK f d c) i k (fo g d v e c) (an d c) l),.own⟩,⟨.ag v,.ro⟩]:List ah)=_;rw[p,q,r,s]
     rw[t];have z:=aeM h f i k g d l v e c;rw[n]at z;refine⟨(bE 5 21),some [0,1],_,z,?_⟩
     repeat'(refine ax ?_ ?_)
     all_goals first|exact aV|rfl|(simp only[cz,eC,o,n,w,x]<;>omega)
 ·have E:d=0:=by omega
  subst E;by_cases F:c=0
  ·subst F;have u:aO 0=0:=rfl;have p:fN h f i g (0:Int) v e (0:Nat)=h:=by
    unfold fN;simp only[ak h1,u];rfl
   have q:bK f (0:Int) (0:Nat)=f:=by
    unfold bK;simp only[ak h1,u];rfl
   have r:fo g (0:Int) v e (0:Nat)=g:=by
    unfold fo;simp only[ak h1];rfl
   have s:an (0:Int) (0:Nat)=(0:Int):=by
    unfold an;simp only[ak h1,u];rfl
   have t:iQ.out ⟨h,f,i,k,g,(0:Int),l,v,e,(0:Nat)⟩=([⟨.gen (cZ h f i k g (0:Int) l),.own⟩,⟨.ag v,.ro⟩]:List ah):=by
    show([⟨.gen (cZ (fN h f i g (0:Int) v e (0:Nat)) (bK f (0:Int) (0:Nat)) i k (fo g (0:Int) v e (0:Nat)) (an (0:Int) (0:Nat)) l),.own⟩,⟨.ag v,.ro⟩]:List ah)=_;rw[p,q,r,s]
   rw[t];refine⟨(bE 3 0),some [0,1],_,aeG h f i k g (0:Int) l v e (0:Nat),?_⟩
   repeat'(refine ax ?_ ?_)
   all_goals first|exact aV|rfl|(simp only[cz,eC,o,w,x]<;>omega)
  ·by_cases h3:c≤128
   ·have A:0<c:=by omega
    have u:aO c=0:=by unfold aO;omega
    have p:fN h f i g (0:Int) v e c=h:=by
     unfold fN;simp only[ak h1,u];rfl
    have q:bK f (0:Int) c=f:=by
     unfold bK;simp only[ak h1,u];rfl
    have r:fo g (0:Int) v e c=(gw g v e c):=by
     unfold fo;simp only[ak h1,av A,u];simp only[Bw,gd,gz]
    have s:an (0:Int) c=((0:Int)+iz c):=by
     unfold an;simp only[ak h1,u];unfold iz;rw[o];omega
    have t:iQ.out ⟨h,f,i,k,g,(0:Int),l,v,e,c⟩=([⟨.gen (cZ h f i k (gw g v e c) ((0:Int)+iz c) l),.own⟩,⟨.ag v,.ro⟩]:List ah):=by
     show([⟨.gen (cZ (fN h f i g (0:Int) v e c) (bK f (0:Int) c) i k (fo g (0:Int) v e c) (an (0:Int) c) l),.own⟩,⟨.ag v,.ro⟩]:List ah)=_;rw[p,q,r,s]
    rw[t];refine⟨(bE 3 4),some [0,1],_,aeH h f i k g (0:Int) l v e c,?_⟩
    repeat'(refine ax ?_ ?_)
    all_goals first|exact aV|rfl|(simp only[cz,eC,o,w,x]<;>omega)
   ·by_cases h4:(c:Int)=bk .i64 (c:Int) 127
    ·rw[w]at h4;have A:0<c:=by omega
     have m:((bk .i64 (c:Int) 127)-128).toNat=128*aO c:=by rw[w];unfold aO;omega
     have y:128*aO c/128=aO c:=by omega
     have B:c-128*aO c≤128∧128*aO c≤c∧1≤c-128*aO c:=by unfold aO;omega
     have p:fN h f i g (0:Int) v e c=(ji h f i v e (((bk .i64 (c:Int) 127)-128).toNat/128)):=by
      unfold fN;simp only[ak h1,m,y]
     have q:bK f (0:Int) c=(gN f (((bk .i64 (c:Int) 127)-128).toNat/128)):=by
      unfold bK;simp only[ak h1,m,y]
     have r:fo g (0:Int) v e c=(gw (cy g) v (e+((bk .i64 (c:Int) 127)-128).toNat) (c-((bk .i64 (c:Int) 127)-128).toNat)):=by
      unfold fo;simp only[ak h1,av A,m,Gq]
     have s:an (0:Int) c=((0:Int)+iz (c-((bk .i64 (c:Int) 127)-128).toNat)):=by
      unfold an;simp only[ak h1,m];unfold iz;rw[o];omega
     have t:iQ.out ⟨h,f,i,k,g,(0:Int),l,v,e,c⟩=([⟨.gen (cZ (ji h f i v e (((bk .i64 (c:Int) 127)-128).toNat/128)) (gN f (((bk .i64 (c:Int) 127)-128).toNat/128)) i k (gw (cy g) v (e+((bk .i64 (c:Int) 127)-128).toNat) (c-((bk .i64 (c:Int) 127)-128).toNat)) ((0:Int)+iz (c-((bk .i64 (c:Int) 127)-128).toNat)) l),.own⟩,⟨.ag v,.ro⟩]:List ah):=by
      show([⟨.gen (cZ (fN h f i g (0:Int) v e c) (bK f (0:Int) c) i k (fo g (0:Int) v e c) (an (0:Int) c) l),.own⟩,⟨.ag v,.ro⟩]:List ah)=_;rw[p,q,r,s]
     rw[t];refine⟨(bE 4 14),some [0,1],_,aeJ h f i k g (0:Int) l v e c,?_⟩
     repeat'(refine ax ?_ ?_)
     all_goals first|exact aV|rfl|(simp only[cz,eC,o,w,x]<;>omega)
    ·rw[w]at h4;have A:0<c:=by omega
     have m:(bk .i64 (c:Int) 127).toNat=128*aO c:=by rw[w];unfold aO;omega
     have y:128*aO c/128=aO c:=by omega
     have B:c-128*aO c≤128∧128*aO c≤c∧1≤c-128*aO c:=by unfold aO;omega
     have p:fN h f i g (0:Int) v e c=(ji h f i v e ((bk .i64 (c:Int) 127).toNat/128)):=by
      unfold fN;simp only[ak h1,m,y]
     have q:bK f (0:Int) c=(gN f ((bk .i64 (c:Int) 127).toNat/128)):=by
      unfold bK;simp only[ak h1,m,y]
     have r:fo g (0:Int) v e c=(gw (cy g) v (e+(bk .i64 (c:Int) 127).toNat) (c-(bk .i64 (c:Int) 127).toNat)):=by
      unfold fo;simp only[ak h1,av A,m,Gq]
     have s:an (0:Int) c=((0:Int)+iz (c-(bk .i64 (c:Int) 127).toNat)):=by
      unfold an;simp only[ak h1,m];unfold iz;rw[o];omega
     have t:iQ.out ⟨h,f,i,k,g,(0:Int),l,v,e,c⟩=([⟨.gen (cZ (ji h f i v e ((bk .i64 (c:Int) 127).toNat/128)) (gN f ((bk .i64 (c:Int) 127).toNat/128)) i k (gw (cy g) v (e+(bk .i64 (c:Int) 127).toNat) (c-(bk .i64 (c:Int) 127).toNat)) ((0:Int)+iz (c-(bk .i64 (c:Int) 127).toNat)) l),.own⟩,⟨.ag v,.ro⟩]:List ah):=by
      show([⟨.gen (cZ (fN h f i g (0:Int) v e c) (bK f (0:Int) c) i k (fo g (0:Int) v e c) (an (0:Int) c) l),.own⟩,⟨.ag v,.ro⟩]:List ah)=_;rw[p,q,r,s]
     rw[t];refine⟨(bE 4 10),some [0,1],_,aeI h f i k g (0:Int) l v e c,?_⟩
     repeat'(refine ax ?_ ?_)
     all_goals first|exact aV|rfl|(simp only[cz,eC,o,w,x]<;>omega)
structure KQ where
 (h:bp)(aY c1:BitVec 64)(ku:Int)(o3:U 8)(kw:Int)(kb:U 8)
def KR(a:List af)(b:List ah):Option KQ:=
 match a with
 |[.ref (.ptr 0 (.c 0)),.atom .cI]=>
  match b with
  |[⟨.gen d,.own⟩]=>
   (match tO d with
   |some (h,e,f,g,i,j,k)=>some ⟨h,e,f,g,i,j,k⟩|none=>none)
  |_=>none
 |_=>none
def tU:bT KQ where
 d0:=⟨⟨0,0,0,0,0,0,0,0⟩,0,0,0,0,0,0⟩
 read:=KR
 args:=fun⟨_,_,_,_,_,_,_⟩=>[.P 0,.atom .cI]
 heap:=fun⟨h,b,c,d,e,a,f⟩=>[⟨.gen (cZ h b c d e a f),.own⟩]
 out:=fun⟨h,b,c,d,e,a,f⟩=>[⟨.gen (cZ h b c d e (a+0) f),.own⟩]
 val:=fun⟨_,_,_,_,_,_,_⟩=>(.obj .bx [.J 0,.atom .fC])
 aS:=fun⟨_,_,_,_,_,a,_⟩=>decide (0≤a∧a≤128)
def aeQ(a:List af)(b:List ah)(d:KQ)(h:tU.read a b=some d):a=tU.args d∧b=tU.heap d:=by
 replace h:KR a b=some d:=h;unfold KR at h;split at h
 case h_2=>cases h
 split at h
 case h_2=>cases h
 split at h
 case h_2=>cases h
 rename_i c;cases x9 c;cases h;exact⟨rfl,rfl⟩
def dI(h:bp)(b c:BitVec 64)(d:Int)(e:U 8)(a:Int)(f:U 8):tU.cB ⟨h,b,c,d,e,a,f⟩ (some [0]) (bY cr aQ 119) [true,true] [⟨.gen (cZ h b c d e (a+0) f),.own⟩] (.obj .bx [.J 0,.atom .fC]) [bV (a+(((Nat.min 0 ((128:Nat)-a.toNat)):Nat):Int)),decide (((11:Nat)≤(11+(a.toNat*1))∧((11+(a.toNat*1))+0)≤139)),((decide (0≤a)&&decide (a≤(128:Int)))&&true),(decide ((0:Int)≤(128-a))==true),bV (128-a),(decide (0<a)==true)]:=by show _=_;kernel_rfl
def n0(h:bp)(b c:BitVec 64)(d:Int)(e:U 8)(a:Int)(f:U 8):tU.cB ⟨h,b,c,d,e,a,f⟩ (some [0]) (bY cr aQ 119) [false] [⟨.gen (cZ h b c d e a f),.own⟩] (.obj .bx [.J 0,.atom .fC]) [(decide (0<a)==false)]:=by show _=_;kernel_rfl
def aeR:br 119 tU.spec:=by
 refine tU.ok (dm fL (cK _)) aeQ ?_;rintro⟨h,d,e,f,g,c,i⟩ j;have j:=aZ j;have k:∀a b:Nat,Nat.min a b=min a b:=fun _ _=>rfl;by_cases h1:0<c
 ·refine⟨[true,true],some [0],_,dI h d e f g c i,?_⟩
  repeat'(refine ax ?_ ?_)
  all_goals first|exact aV|(simp only[cz,k,Nat.zero_min]<;>omega)
 ·have l:tU.out ⟨h,d,e,f,g,c,i⟩=([⟨.gen (cZ h d e f g c i),.own⟩]:List ah):=by
   show([⟨.gen (cZ h d e f g (c+0) i),.own⟩]:List ah)=_;rw[Int.add_zero]
  rw[l];refine⟨[false],some [0],_,n0 h d e f g c i,?_⟩
  repeat'(refine ax ?_ ?_)
  all_goals first|exact aV|(simp only[eT,zb,ni,w7]<;>omega)
structure So where
 (h:bp)(aY c1:BitVec 64)(b:U 8)
def KS(a:List af)(d:List ah):Option So:=
 match a with
 |[.ref (.ptr 0 (.c 0)),.ref (.ptr 1 (.c 0)),.num (.int .u64 (.c 18446744073709551615)),.ref (.sl 2 (.c 0) (.c 128) none)]=>
  match d with
  |[⟨.gen [.num (.au e),.num (.au h1),.num (.au h2),.num (.au h3),.num (.au h4),.num (.au f),.num (.au g),.num (.au h)],.own⟩,⟨.gen [.num (.au i),.num (.au j)],.own⟩,⟨.ag b,.ro⟩]=>some ⟨⟨e,h1,h2,h3,h4,f,g,h⟩,i,j,b⟩|_=>none
 |_=>none
def wh:bT So where
 d0:=⟨⟨0,0,0,0,0,0,0,0⟩,0,0,0⟩
 read:=KS
 args:=fun⟨_,_,_,_⟩=>[.P 0,.P 1,.num (.int .u64 (.c 18446744073709551615)),.ref (.sl 2 (.c 0) (.c 128) none)]
 heap:=fun⟨h,a,d,b⟩=>[⟨.gen [.num (.au h.dQ),.num (.au h.ew),.num (.au h.ey),.num (.au h.ez),.num (.au h.e4),.num (.au h.e5),.num (.au h.e6),.num (.au h.e7)],.own⟩,⟨.gen [.num (.au a),.num (.au d)],.own⟩,⟨.ag b,.ro⟩]
 out:=fun⟨h,a,d,b⟩=>[⟨.gen (kX (cm h (a+128#64) (j3 a d) 18446744073709551615#64 (e8 b 0))),.own⟩,⟨.gen (nK (a+128#64) (j3 a d)),.own⟩,⟨.ag b,.ro⟩]
 val:=fun⟨_,_,_,_⟩=>(.bx [])
 aS:=fun⟨_,_,_,b⟩=>decide (b.n=128)
def aeS:wh.Rd:=by
 intro a b d h;change KS a b=some d at h;unfold KS at h;repeat' split at h
 all_goals cases h
 exact⟨rfl,rfl⟩
def aeT(h:bp)(a c:BitVec 64)(b:U 8):wh.cB ⟨h,a,c,b⟩ (b6 3) (bY vY aQ 122) [false] [⟨.gen (kX (cm h (a+128#64) c 18446744073709551615#64 (e8 b 0))),.own⟩,⟨.gen (nK (a+128#64) c),.own⟩,⟨.ag b,.ro⟩] (.bx []) [decide ((128≤b.n∧((8:Nat)≤((128:Nat)-120)∧((128:Nat)-120)≤1099511627776))),decide ((120≤b.n∧((8:Nat)≤((128:Nat)-112)∧((128:Nat)-112)≤1099511627776))),decide ((112≤b.n∧((8:Nat)≤((128:Nat)-104)∧((128:Nat)-104)≤1099511627776))),decide ((104≤b.n∧((8:Nat)≤((128:Nat)-96)∧((128:Nat)-96)≤1099511627776))),decide ((96≤b.n∧((8:Nat)≤((128:Nat)-88)∧((128:Nat)-88)≤1099511627776))),decide ((88≤b.n∧((8:Nat)≤((128:Nat)-80)∧((128:Nat)-80)≤1099511627776))),decide ((80≤b.n∧((8:Nat)≤((128:Nat)-72)∧((128:Nat)-72)≤1099511627776))),decide ((72≤b.n∧((8:Nat)≤((128:Nat)-64)∧((128:Nat)-64)≤1099511627776))),decide ((64≤b.n∧((8:Nat)≤((128:Nat)-56)∧((128:Nat)-56)≤1099511627776))),decide ((56≤b.n∧((8:Nat)≤((128:Nat)-48)∧((128:Nat)-48)≤1099511627776))),decide ((48≤b.n∧((8:Nat)≤((128:Nat)-40)∧((128:Nat)-40)≤1099511627776))),decide ((40≤b.n∧((8:Nat)≤((128:Nat)-32)∧((128:Nat)-32)≤1099511627776))),decide ((32≤b.n∧((8:Nat)≤((128:Nat)-24)∧((128:Nat)-24)≤1099511627776))),decide ((24≤b.n∧((8:Nat)≤((128:Nat)-16)∧((128:Nat)-16)≤1099511627776))),decide ((16≤b.n∧((8:Nat)≤((128:Nat)-8)∧((128:Nat)-8)≤1099511627776))),decide ((8≤b.n∧((8:Nat)≤((128:Nat)-0)∧((128:Nat)-0)≤1099511627776))),(decide ((a+(128#64)).toNat<(128#64).toNat)==false)]:=by show _=_;kernel_rfl
def aeU(h:bp)(a c:BitVec 64)(b:U 8):wh.cB ⟨h,a,c,b⟩ (b6 3) (bY vY aQ 122) [true] [⟨.gen (kX (cm h (a+128#64) (c+1#64) 18446744073709551615#64 (e8 b 0))),.own⟩,⟨.gen (nK (a+128#64) (c+1#64)),.own⟩,⟨.ag b,.ro⟩] (.bx []) [decide ((128≤b.n∧((8:Nat)≤((128:Nat)-120)∧((128:Nat)-120)≤1099511627776))),decide ((120≤b.n∧((8:Nat)≤((128:Nat)-112)∧((128:Nat)-112)≤1099511627776))),decide ((112≤b.n∧((8:Nat)≤((128:Nat)-104)∧((128:Nat)-104)≤1099511627776))),decide ((104≤b.n∧((8:Nat)≤((128:Nat)-96)∧((128:Nat)-96)≤1099511627776))),decide ((96≤b.n∧((8:Nat)≤((128:Nat)-88)∧((128:Nat)-88)≤1099511627776))),decide ((88≤b.n∧((8:Nat)≤((128:Nat)-80)∧((128:Nat)-80)≤1099511627776))),decide ((80≤b.n∧((8:Nat)≤((128:Nat)-72)∧((128:Nat)-72)≤1099511627776))),decide ((72≤b.n∧((8:Nat)≤((128:Nat)-64)∧((128:Nat)-64)≤1099511627776))),decide ((64≤b.n∧((8:Nat)≤((128:Nat)-56)∧((128:Nat)-56)≤1099511627776))),decide ((56≤b.n∧((8:Nat)≤((128:Nat)-48)∧((128:Nat)-48)≤1099511627776))),decide ((48≤b.n∧((8:Nat)≤((128:Nat)-40)∧((128:Nat)-40)≤1099511627776))),decide ((40≤b.n∧((8:Nat)≤((128:Nat)-32)∧((128:Nat)-32)≤1099511627776))),decide ((32≤b.n∧((8:Nat)≤((128:Nat)-24)∧((128:Nat)-24)≤1099511627776))),decide ((24≤b.n∧((8:Nat)≤((128:Nat)-16)∧((128:Nat)-16)≤1099511627776))),decide ((16≤b.n∧((8:Nat)≤((128:Nat)-8)∧((128:Nat)-8)≤1099511627776))),decide ((8≤b.n∧((8:Nat)≤((128:Nat)-0)∧((128:Nat)-0)≤1099511627776))),(decide ((a+(128#64)).toNat<(128#64).toNat)==true)]:=by show _=_;kernel_rfl
def aeV:br 122 wh.spec:=by
 refine wh.ok (dm KI (cK _)) aeS ?_;rintro⟨h,a,c,b⟩ f;have f:=aZ f;by_cases d:(a+128#64).toNat<(128#64).toNat
 ·have e:wh.out ⟨h,a,c,b⟩=([⟨.gen (kX (cm h (a+128#64) (c+1#64) 18446744073709551615#64 (e8 b 0))),.own⟩,⟨.gen (nK (a+128#64) (c+1#64)),.own⟩,⟨.ag b,.ro⟩]:List ah):=by
   show([⟨.gen (kX (cm h (a+128#64) (j3 a c) 18446744073709551615#64 (e8 b 0))),.own⟩,⟨.gen (nK (a+128#64) (j3 a c)),.own⟩,⟨.ag b,.ro⟩]:List ah)=_;unfold j3;rw[av d]
  rw[e];refine⟨[true],some [0,1,2],_,aeU h a c b,?_⟩
  repeat'(refine ax ?_ ?_)
  all_goals first|exact aV|rfl|(simp only[eT,Bv,zb,ni,jM,w7]<;>exact d)|(simp only[cz]<;>omega)
 ·have e:wh.out ⟨h,a,c,b⟩=([⟨.gen (kX (cm h (a+128#64) c 18446744073709551615#64 (e8 b 0))),.own⟩,⟨.gen (nK (a+128#64) c),.own⟩,⟨.ag b,.ro⟩]:List ah):=by
   show([⟨.gen (kX (cm h (a+128#64) (j3 a c) 18446744073709551615#64 (e8 b 0))),.own⟩,⟨.gen (nK (a+128#64) (j3 a c)),.own⟩,⟨.ag b,.ro⟩]:List ah)=_;unfold j3;rw[ak d]
  rw[e];refine⟨[false],some [0,1,2],_,aeT h a c b,?_⟩
  repeat'(refine ax ?_ ?_)
  all_goals first|exact aV|rfl|(simp only[eT,Bv,zb,ni,jM,w7]<;>exact d)|(simp only[cz]<;>omega)
def Sp:aA.Spec:=fK sx.spec (fK vN.spec wh.spec)
def aeW:br 122 Sp:=dy.or Sk (dy.or Rv aeV)
def Gr:FuncId→Option aA.Spec|122=>some Sp|_=>none
def aeX:∀f a,Gr f=some a→br f a:=by
 intro f a h;unfold Gr at h;split at h
 ·cases h;exact aeW
 ·cases h
def KT(a:bp):List (BitVec 8):=[(a.dQ>>>0).setWidth 8,(a.dQ>>>8).setWidth 8,(a.dQ>>>16).setWidth 8,(a.dQ>>>24).setWidth 8,(a.dQ>>>32).setWidth 8,(a.dQ>>>40).setWidth 8,(a.dQ>>>48).setWidth 8,(a.dQ>>>56).setWidth 8,(a.ew>>>0).setWidth 8,(a.ew>>>8).setWidth 8,(a.ew>>>16).setWidth 8,(a.ew>>>24).setWidth 8,(a.ew>>>32).setWidth 8,(a.ew>>>40).setWidth 8,(a.ew>>>48).setWidth 8,(a.ew>>>56).setWidth 8,(a.ey>>>0).setWidth 8,(a.ey>>>8).setWidth 8,(a.ey>>>16).setWidth 8,(a.ey>>>24).setWidth 8,(a.ey>>>32).setWidth 8,(a.ey>>>40).setWidth 8,(a.ey>>>48).setWidth 8,(a.ey>>>56).setWidth 8,(a.ez>>>0).setWidth 8,(a.ez>>>8).setWidth 8,(a.ez>>>16).setWidth 8,(a.ez>>>24).setWidth 8,(a.ez>>>32).setWidth 8,(a.ez>>>40).setWidth 8,(a.ez>>>48).setWidth 8,(a.ez>>>56).setWidth 8,(a.e4>>>0).setWidth 8,(a.e4>>>8).setWidth 8,(a.e4>>>16).setWidth 8,(a.e4>>>24).setWidth 8,(a.e4>>>32).setWidth 8,(a.e4>>>40).setWidth 8,(a.e4>>>48).setWidth 8,(a.e4>>>56).setWidth 8,(a.e5>>>0).setWidth 8,(a.e5>>>8).setWidth 8,(a.e5>>>16).setWidth 8,(a.e5>>>24).setWidth 8,(a.e5>>>32).setWidth 8,(a.e5>>>40).setWidth 8,(a.e5>>>48).setWidth 8,(a.e5>>>56).setWidth 8,(a.e6>>>0).setWidth 8,(a.e6>>>8).setWidth 8,(a.e6>>>16).setWidth 8,(a.e6>>>24).setWidth 8,(a.e6>>>32).setWidth 8,(a.e6>>>40).setWidth 8,(a.e6>>>48).setWidth 8,(a.e6>>>56).setWidth 8,(a.e7>>>0).setWidth 8,(a.e7>>>8).setWidth 8,(a.e7>>>16).setWidth 8,(a.e7>>>24).setWidth 8,(a.e7>>>32).setWidth 8,(a.e7>>>40).setWidth 8,(a.e7>>>48).setWidth 8,(a.e7>>>56).setWidth 8]
def AG(a:U 8)(b:Int):U 8:=(U.of (List.replicate 128 0#8)).over 0 ((cy a).sub 0 (Nat.min b.toNat 128))
def tV(a:Int):BitVec 64:=BitVec.ofInt 64 (128-a)
def wj(h:bp)(b c:BitVec 64)(d:U 8)(a:Int):bp:=cm h (b-tV a+128#64) (j3 (b-tV a) c) 18446744073709551615#64 (e8 (AG d a) 0)
def wm(h:bp)(a c:BitVec 64)(d:U 8)(b:Int):bp:=if a.toNat<(tV b).toNat then wj h a (c-1#64) d b else wj h a c d b
def e9(a:bp)(v:U 8)(b:Nat)(c:Int):U 8:=v.over b ((U.of (KT a)).sub 0 c.toNat)
structure KU where
 (h:bp)(aY c1:BitVec 64)(ku:Int)(o3:U 8)(kw:Int)(kb v:U 8)(o c5:Nat)
def KV(a:List af)(b:List ah):Option KU:=
 match a with
 |[.ref (.ptr 0 (.c 0)),.ref (.sl 1 (.s d) (.c 0) (some (.s e)))]=>
  match b with
  |[⟨.gen f,.own⟩,⟨.ag v,.own⟩]=>
   (match tO f with
   |some (h,g,i,j,k,l,m)=>some ⟨h,g,i,j,k,l,m,v,d,e⟩|none=>none)
  |_=>none
 |_=>none
def qT:bT KU where
 d0:=⟨⟨0,0,0,0,0,0,0,0⟩,0,0,0,0,0,0,0,0,0⟩
 read:=KV
 args:=fun⟨_,_,_,_,_,_,_,_,b,d⟩=>[.P 0,.ref (.sl 1 (.s b) (.c 0) (some (.s d)))]
 heap:=fun⟨h,f,g,a,i,e,j,v,_,_⟩=>[⟨.gen (cZ h f g a i e j),.own⟩,⟨.ag v,.own⟩]
 out:=fun⟨h,f,g,a,i,e,j,v,b,_⟩=>[⟨.gen (cZ h f g a i e j),.own⟩,⟨.ag (e9 (wm h f g i e) v b a),.own⟩]
 val:=fun⟨_,_,_,a,_,_,_,_,b,d⟩=>(.sl 1 (.s b) (.s (0+a.toNat)) (some (.s d)))
 aS:=fun⟨_,_,_,a,_,e,_,v,b,d⟩=>decide (0≤e∧e≤128∧1≤a∧a≤64∧a.toNat≤d∧b+d≤v.n∧d≤1099511627776)
def aeY(a:List af)(b:List ah)(d:KU)(h:qT.read a b=some d):a=qT.args d∧b=qT.heap d:=by
 replace h:KV a b=some d:=h;unfold KV at h;split at h
 case h_2=>cases h
 split at h
 case h_2=>cases h
 split at h
 case h_2=>cases h
 rename_i c;cases x9 c;cases h;exact⟨rfl,rfl⟩
def aeZ(h:bp)(c f:BitVec 64)(a:Int)(g:U 8)(b:Int)(i v:U 8)(d e:Nat):qT.cB ⟨h,c,f,a,g,b,i,v,d,e⟩ (b6 2) (bY Gr aQ 118) [false,true] [⟨.gen (cZ h c f a g b i),.own⟩,⟨.ag (e9 (wj h c f g b) v d a),.own⟩] (.sl 1 (.s d) (.s (0+a.toNat)) (some (.s e))) [decide (((d+0)+a.toNat)≤v.n),decide (1≤e),(decide ((0+a.toNat)≤e)==true),decide (((0+a.toNat)*1)≤1099511627776),decide ((0+a.toNat)≤64),(decide (0≤a)&&decide (a≤(64:Int))),true,decide ((128:Nat)≤128),(decide (c.toNat<(BitVec.ofInt 64 (128-b)).toNat)==false),bV (128-b),decide ((0+(Nat.min b.toNat (128:Nat)))≤128),decide (((11:Nat)≤(11+0)∧((11+0)+(Nat.min b.toNat (128:Nat)))≤139)),(decide (0≤b)&&decide (b≤(128:Int)))]:=by show _=_;kernel_rfl
def ae0(h:bp)(c f:BitVec 64)(a:Int)(g:U 8)(b:Int)(i v:U 8)(d e:Nat):qT.cB ⟨h,c,f,a,g,b,i,v,d,e⟩ (b6 2) (bY Gr aQ 118) [true,true] [⟨.gen (cZ h c f a g b i),.own⟩,⟨.ag (e9 (wj h c (f-1#64) g b) v d a),.own⟩] (.sl 1 (.s d) (.s (0+a.toNat)) (some (.s e))) [decide (((d+0)+a.toNat)≤v.n),decide (1≤e),(decide ((0+a.toNat)≤e)==true),decide (((0+a.toNat)*1)≤1099511627776),decide ((0+a.toNat)≤64),(decide (0≤a)&&decide (a≤(64:Int))),true,decide ((128:Nat)≤128),(decide (c.toNat<(BitVec.ofInt 64 (128-b)).toNat)==true),bV (128-b),decide ((0+(Nat.min b.toNat (128:Nat)))≤128),decide (((11:Nat)≤(11+0)∧((11+0)+(Nat.min b.toNat (128:Nat)))≤139)),(decide (0≤b)&&decide (b≤(128:Int)))]:=by show _=_;kernel_rfl
def Sq:br 118 qT.spec:=by
 refine qT.ok (dm aeX (cK _)) aeY ?_;rintro⟨h,c,e,f,g,d,i,v,j,k⟩ n;have n:=aZ n;have o:∀a b:Nat,Nat.min a b=min a b:=fun _ _=>rfl;by_cases l:c.toNat<(tV d).toNat
 ·have m:qT.out ⟨h,c,e,f,g,d,i,v,j,k⟩=([⟨.gen (cZ h c e f g d i),.own⟩,⟨.ag (e9 (wj h c (e-1#64) g d) v j f),.own⟩]:List ah):=by
   show([⟨.gen (cZ h c e f g d i),.own⟩,⟨.ag (e9 (wm h c e g d) v j f),.own⟩]:List ah)=_;unfold wm;rw[av l]
  rw[m];refine⟨[true,true],some [0,1],_,ae0 h c e f g d i v j k,?_⟩
  repeat'(refine ax ?_ ?_)
  all_goals first|exact aV|rfl|(simp only[eT,Bv,zb,ni,jM,w7]<;>exact l)|(simp only[cz,eC,o]<;>omega)
 ·have m:qT.out ⟨h,c,e,f,g,d,i,v,j,k⟩=([⟨.gen (cZ h c e f g d i),.own⟩,⟨.ag (e9 (wj h c e g d) v j f),.own⟩]:List ah):=by
   show([⟨.gen (cZ h c e f g d i),.own⟩,⟨.ag (e9 (wm h c e g d) v j f),.own⟩]:List ah)=_;unfold wm;rw[ak l]
  rw[m];refine⟨[false,true],some [0,1],_,aeZ h c e f g d i v j k,?_⟩
  repeat'(refine ax ?_ ?_)
  all_goals first|exact aV|rfl|(simp only[eT,Bv,zb,ni,jM,w7]<;>exact l)|(simp only[cz,eC,o]<;>omega)
def b7(a:Int):bp:=⟨7640891576956012808#64^^^(((BitVec.ofInt 64 a|||0#64)|||65536#64)|||16777216#64),13503953896175478587#64,4354685564936845355#64,11912009170470909681#64,5840696475078001361#64,11170449401992604703#64,2270897969802886507#64,6620516959819538809#64⟩
def qU:U 8:=U.of (List.replicate 128 0#8)
structure KW where
 (h:bp)(aY c1:BitVec 64)(ku:Int)(o3:U 8)(kw:Int)(kb:U 8)
def KX(a:List af)(b:List ah):Option KW:=
 match a with
 |[.ref (.ptr 0 (.c 0))]=>
  match b with
  |[⟨.gen d,.own⟩]=>
   (match tO d with
   |some (h,e,f,g,i,j,k)=>some ⟨h,e,f,g,i,j,k⟩|none=>none)
  |_=>none
 |_=>none
def yl:bT KW where
 d0:=⟨⟨0,0,0,0,0,0,0,0⟩,0,0,0,0,0,0⟩
 read:=KX
 args:=fun⟨_,_,_,_,_,_,_⟩=>[.P 0]
 heap:=fun⟨h,d,e,a,b,f,c⟩=>[⟨.gen (cZ h d e a b f c),.own⟩]
 out:=fun⟨_,_,_,a,b,_,c⟩=>[⟨.gen (cZ (b7 a) 0#64 0#64 a b 0 c),.own⟩]
 val:=fun⟨_,_,_,_,_,_,_⟩=>(.bx [])
 aS:=fun⟨_,_,_,a,_,_,_⟩=>decide (0≤a∧a≤64)
def ae1(h:bp)(a b:BitVec 64)(c:Int)(d:U 8)(e:Int)(f:U 8):yl.fS ⟨h,a,b,c,d,e,f⟩ (some [0]) (bY cr aQ 85) [] []:=by show _=_;kernel_rfl
def ae2(a:List af)(b:List ah)(d:KW)(h:yl.read a b=some d):a=yl.args d∧b=yl.heap d:=by
 replace h:KX a b=some d:=h;unfold KX at h;split at h
 case h_2=>cases h
 split at h
 case h_2=>cases h
 split at h
 case h_2=>cases h
 rename_i c;cases x9 c;cases h;exact⟨rfl,rfl⟩
def ae3:br 85 yl.spec:=by
 refine yl.ok (dm fL (cK _)) ae2 ?_;rintro⟨h,b,c,d,e,f,g⟩ a;have a:=aZ a;refine⟨[],(some [0]),_,ae1 h b c d e f g,?_⟩
 repeat'(refine ax ?_ ?_)
 all_goals first|exact aV|rfl|(simp only[cz]<;>omega)
structure Sr where
 ku:Int
def KY(a:List af)(b:List ah):Option Sr:=
 match a with
 |[.num (.int .i64 (.s c)),.atom .cI]=>
  match b with
  |[]=>some ⟨c⟩|_=>none
 |_=>none
def AH:bT Sr where
 d0:=⟨0⟩
 read:=KY
 args:=fun⟨a⟩=>[.aq a,.atom .cI]
 heap:=fun⟨_⟩=>[]
 out:=fun⟨a⟩=>[⟨.gen (cZ (b7 a) 0#64 0#64 a qU 0 qU),.own⟩]
 val:=fun⟨_⟩=>(.obj .bx [.P 0,.atom .fC])
 aS:=fun⟨a⟩=>decide (1≤a∧a≤64)
def ae4(a:Int):AH.fS ⟨a⟩ (some [0]) (bY cr aQ 56) (bE 4 0) [(decide (64<a)==false),(decide (a<1)==false),(decide (a<1)==false),(decide (a<1)==false)]:=by show _=_;kernel_rfl
def ae5:AH.Rd:=by
 intro a b d h;change KY a b=some d at h;unfold KY at h;repeat' split at h
 all_goals cases h
 exact⟨rfl,rfl⟩
def Ss:br 56 AH.spec:=by
 refine AH.ok (dm fL (cK _)) ae5 ?_;rintro⟨b⟩ a;have a:=aZ a;refine⟨(bE 4 0),(some [0]),_,ae4 b,?_⟩
 repeat'(refine ax ?_ ?_)
 all_goals first|exact aV|rfl|(simp only[cz]<;>omega)
def tW:FuncId→Option aA.Spec|85=>some yl.spec|56=>some AH.spec|118=>some qT.spec|119=>some iQ.spec|_=>none
def St:∀f a,tW f=some a→br f a:=by
 intro f a h;unfold tW at h;split at h
 ·cases h;exact ae3
 ·cases h;exact Ss
 ·cases h;exact Sq
 ·cases h;exact Sn
 ·cases h
def eta(h:bp):bp:=⟨h.dQ,h.ew,h.ey,h.ez,h.e4,h.e5,h.e6,h.e7⟩
structure kB where
 (h:bp)(c:BitVec 64)(x:U 8)(n:Int)
def jk(d:kB)(v:U 8)(b a:Nat):kB:=⟨fN (eta d.h) d.c 0#64 (cy d.x) d.n v b a,bK d.c d.n a,fo (cy d.x) d.n v b a,an d.n a⟩
def gE(d:kB):bp:=wm (eta d.h) d.c 0#64 (cy d.x) d.n
def AI(a:Int)(b:U 8):kB:=⟨b7 a,0#64,b,0⟩
def gI(a:Nat):U 8:=U.of [((BitVec.ofInt 32 (a:Int))>>>0).setWidth 8,((BitVec.ofInt 32 (a:Int))>>>8).setWidth 8,((BitVec.ofInt 32 (a:Int))>>>16).setWidth 8,((BitVec.ofInt 32 (a:Int))>>>24).setWidth 8,0#8,0#8,0#8,0#8,0#8,0#8,0#8,0#8,0#8,0#8,0#8,0#8,0#8,0#8,0#8,0#8,0#8,0#8,0#8,0#8,0#8,0#8,0#8,0#8,0#8,0#8,0#8,0#8,0#8,0#8,0#8,0#8,0#8,0#8,0#8,0#8,0#8,0#8,0#8,0#8,0#8,0#8,0#8,0#8,0#8,0#8,0#8,0#8,0#8,0#8,0#8,0#8,0#8,0#8,0#8,0#8,0#8,0#8,0#8,0#8]
def Gs(a:bp)(v:U 8)(b:Nat)(z:Int):(e9 a v b z).n=v.n:=rfl
def KZ(v a:U 8)(b:Nat):(v.over b a).n=v.n:=rfl
def Da(a:Int)(b:Nat)(h1:0≤a)(h2:a≤128):0≤an a b∧an a b≤128:=by
 unfold an aO;split
 ·split<;>omega
 ·omega
structure tX where
 (v w b:U 8)(h:bp)(aY:BitVec 64)(ku:Int)(o3:U 8)(kw:Int)(kb:U 8)(o iy c5:Nat)(N:Int)
def ae6(d:tX):aI×List ah:=
 match d with
 |⟨v,w,b,h,a,c,e,f,g,i,j,k,N⟩=>(⟨[.ref (.sl 0 (.s i) (.s j) (some (.s k))),.aa,.aa,.aa,.obj (.ig 122) [.P 2],.aa,.P 3,.aq N,.aa],[]⟩,[⟨.ag v,.own⟩,⟨.ag w,.ro⟩,⟨.gen ([.num (.au h.dQ),.num (.au h.ew),.num (.au h.ey),.num (.au h.ez),.num (.au h.e4),.num (.au h.e5),.num (.au h.e6),.num (.au h.e7),.num (.au a),.num (.au 0#64),.aq c]++jY e 128++([.aq f]++jY g 128++[.J 0])),.own⟩,⟨.ag b,.own⟩,cp])
def mb(d:tX):tX:=
 match d with
 |⟨v,w,b,h,f,a,c,e,j,g,i,k,N⟩=>⟨v.over g ((e9 (gE (jk ⟨h,f,c,e⟩ b 0 64)) b 0 a).sub 0 (Nat.min 32 i)),w,e9 (gE (jk ⟨h,f,c,e⟩ b 0 64)) b 0 a,b7 a,0#64,a,fo (cy c) e b 0 64,0,j,g+32,i-32,k-32,N⟩
def K0(e:aI)(f:List ah):Option tX:=
 match e with
 |⟨[.ref (.sl 0 (.s g) (.s h) (some (.s i))),.atom .aa,.atom .aa,.atom .aa,.obj (.ig 122) [.ref (.ptr 2 (.c 0))],.atom .aa,.ref (.ptr 3 (.c 0)),.num (.int .i64 (.s N)),.atom .aa],[]⟩=>
  match f with
  |[⟨.ag v,.own⟩,⟨.ag w,.ro⟩,⟨.gen ((.num (.au j))::(.num (.au h1))::(.num (.au h2))::(.num (.au h3))::(.num (.au h4))::(.num (.au k))::(.num (.au l))::(.num (.au m))::(.num (.au n))::(.num (.au 0#64))::(.num (.int .i64 (.s o)))::a),.own⟩,⟨.ag b,.own⟩,⟨.gen [],.bn⟩]=>
   (match xX 128 (a.take 128),a.drop 128 with
   |some p,((.num (.int .i64 (.s q)))::d)=>
   (match xX 128 (d.take 128),d.drop 128 with
   |some r,[.num (.int .i64 (.c 0))]=>some ⟨v,w,b,⟨j,h1,h2,h3,h4,k,l,m⟩,n,o,p,q,r,g,h,i,N⟩|_,_=>none)
   |_,_=>none)
  |_=>none
 |_=>none
def mX:eN tX where
 d0:=⟨0,0,0,⟨0,0,0,0,0,0,0,0⟩,0,0,0,0,0,0,0,0,0⟩
 read:=K0
 ay:=ae6
 next:=mb
 rem:=fun⟨_,_,_,_,_,_,_,_,_,_,a,_,_⟩=>(a-33)/32
 aS:=fun⟨v,_,b,_,e,d,_,f,_,g,a,c,_⟩=>decide (g+c≤v.n∧a≤c∧c≤1099511627776∧b.n=64∧1≤d∧d≤64∧f=0∧e.toNat≤1000000)
 out:=.exit 0
def ae7(v w b:U 8)(h:bp)(e:BitVec 64)(a:Int)(i:U 8)(d:Int)(j:U 8)(f c g:Nat)(N:Int):mX.cB ⟨v,w,b,h,e,a,i,d,j,f,c,g,N⟩ (b6 5) (mX.ay (mb ⟨v,w,b,h,e,a,i,d,j,f,c,g,N⟩)) (bZ tW aQ 42 0) [true] .normal [decide ((0≤a∧a≤64)),(decide (32≤(c:Int))&&decide ((c:Int)≤(g:Int))),decide ((f+(Nat.min 32 c))≤v.n),decide ((0+(Nat.min 32 c))≤b.n),decide (64≤b.n),decide ((0≤(an d (64:Nat))∧((an d (64:Nat))≤128∧(1≤a∧(a≤64∧(a.toNat≤64∧((0+64)≤b.n∧64≤1099511627776))))))),decide (64≤b.n),decide ((0≤d∧(d≤128∧((0+(64:Nat))≤b.n∧((64:Nat)≤1099511627776∧((e.toNat+(64:Nat))+256)≤1152921504606846976))))),decide (64≤b.n),(decide (64<(c:Int))==true)]:=by show _=_;kernel_rfl
def ae8(v w b:U 8)(h:bp)(c:BitVec 64)(d:Int)(e:U 8)(f:Int)(g:U 8)(i a j:Nat)(N:Int):mX.cB ⟨v,w,b,h,c,d,e,f,g,i,a,j,N⟩ none (mX.fin ⟨v,w,b,h,c,d,e,f,g,i,a,j,N⟩) (bZ tW aQ 42 0) [false] mX.out [(decide (64<(a:Int))==false)]:=by show _=_;kernel_rfl
def ae9(a:aI)(b:List ah)(d:tX)(h:mX.read a b=some d):(a,b)=mX.ay d:=by
 replace h:K0 a b=some d:=h;unfold K0 at h;split at h
 case h_2=>cases h
 split at h
 case h_2=>cases h
 split at h
 case h_2=>cases h
 rename_i c e;obtain⟨f,_⟩:=C1 c;have g:=F6 f e;subst g;split at h
 case h_2=>cases h
 rename_i c e;obtain⟨f,_⟩:=C1 c;have g:=F6 f e;subst g;cases h;rfl
def afa:dc Tryz.prog bB (aj 42) (bN Tryz.prog 42) (bg Tryz.prog 42 0) (bZ tW aQ 42 0):=iw St (cK _) 42 0 Rq (by rw[show(cH Tryz.prog 42).length=1 by kernel_rfl];omega)
def afb:eH Tryz.prog bB (aj 42) (bN Tryz.prog 42) (bg Tryz.prog 42 0) mX.T.told:=by
 refine mX.j0 afa (by intro k p;have p:k∈([]:List ah):=p;cases p) (by intro h;cases h) ae9 ?_ ?_
 ·rintro⟨v,w,b,h,f,c,g,d,l,j,e,i,N⟩ r m o;have m:=aZ m;have o:(e-33)/32=r+1:=o;have s:mX.next ⟨v,w,b,h,f,c,g,d,l,j,e,i,N⟩=mb ⟨v,w,b,h,f,c,g,d,l,j,e,i,N⟩:=rfl;rw[s];refine⟨⟨[true],(b6 5),_,ae7 v w b h f c g d l j e i N,?_⟩,?_,?_,(show(mX.ay (mb ⟨v,w,b,h,f,c,g,d,l,j,e,i,N⟩)).2.length=5 by kernel_rfl).trans (show(mX.ay ⟨v,w,b,h,f,c,g,d,l,j,e,i,N⟩).2.length=5 by kernel_rfl).symm⟩
  ·have t:(0#64).toNat=0:=rfl;have u:∀a b:Nat,Nat.min a b=min a b:=fun _ _=>rfl;have x:d=0:=by omega
   have y:=Da d 64 (by omega) (by omega)
   repeat'(refine ax ?_ ?_)
   all_goals first|exact aV|rfl|(simp only[cz,eC,gz,u,Gs]<;>omega)
  ·have q:mX.aS (mb ⟨v,w,b,h,f,c,g,d,l,j,e,i,N⟩)=decide ((j+32:Nat)+(i-32:Nat)≤(v.over j ((e9 (gE (jk ⟨h,f,g,d⟩ b 0 64)) b 0 c).sub 0 (Nat.min 32 e)):U 8).n∧(e-32:Nat)≤(i-32:Nat)∧(i-32:Nat)≤1099511627776∧(e9 (gE (jk ⟨h,f,g,d⟩ b 0 64)) b 0 c:U 8).n=64∧1≤c∧c≤64∧(0:Int)=0∧(0#64:BitVec 64).toNat≤1000000):=by kernel_rfl
   refine q.trans (bl ?_);have z:=Gs (gE (jk ⟨h,f,g,d⟩ b 0 64)) b 0 c;have t:(0#64).toNat=0:=rfl;simp only[KZ,HU,uG];omega
  ·have q:mX.rem (mb ⟨v,w,b,h,f,c,g,d,l,j,e,i,N⟩)=(((e-32:Nat)-33)/32):=by kernel_rfl
   refine q.trans ?_;omega
 ·rintro⟨v,w,b,h,f,c,g,d,l,j,e,i,N⟩ m o;have m:=aZ m;have o:(e-33)/32=0:=o;refine⟨[false],none,_,ae8 v w b h f c g d l j e i N,?_⟩
  repeat'(refine ax ?_ ?_)
  all_goals first|exact aV|rfl|(simp only[cz]<;>omega)
def K1:cP:=mX.T.told
def afc:Told 42 0 K1:=afb.run
def wo:FuncId→Nat→Option cP|42,16=>some K1|_,_=>none
def afd:(cH Tryz.prog 42).length=1:=by kernel_rfl
def afe(spec:FuncId→Option aA.Spec):c6 (de spec wo) bB:=by
 refine c6.of fun f=>?_;by_cases a:f=42
 ·subst a;refine .inr ⟨by kernel_rfl,fun i hi e b=>?_⟩;have hi:i<(cH Tryz.prog 42).length:=hi;rw[afd]at hi;have c:i=0:=by omega
  rcases c with rfl
  ·have d:(bX (bg Tryz.prog 42 0)).bind (wo 42)=some K1:=by kernel_rfl
   obtain rfl:=dV (d.symm.trans b);exact afc
 ·refine .inl fun r=>?_
  show wo f r=none;unfold wo;split
  ·exact absurd rfl a
  ·rfl
def qV(a:Int)(w:U 8)(b c d:Nat):kB:=jk (jk (AI a qU) (gI b) 0 4) w c d
def p8(v w:U 8)(d a e b c:Nat):tX:=⟨v.over d ((e9 (gE (qV 64 w a b c)) (gI a) 0 64).sub 0 (Nat.min 32 a)),w,e9 (gE (qV 64 w a b c)) (gI a) 0 64,b7 64,0#64,64,cy (qV 64 w a b c).x,0,qU,d+32,a-32,e-32,(a:Int)⟩
def bG(v w:U 8)(b a c d e:Nat):tX:=iter mb ((a-32-33)/32) (p8 v w b a c d e)
def ga(v w:U 8)(c a f d e:Nat):U 8:=
 if a≤64 then e9 (gE (qV a w a d e)) v c a
 else if 0<(bG v w c a f d e).N.tmod 64 then e9 (gE (jk (AI ((bG v w c a f d e).N-(32*((((bG v w c a f d e).N+31).tdiv 32)-2))) qU) (bG v w c a f d e).b 0 64)) (bG v w c a f d e).v (bG v w c a f d e).o ((bG v w c a f d e).N-(32*((((bG v w c a f d e).N+31).tdiv 32)-2)))
 else e9 (gE (jk ⟨(bG v w c a f d e).h,(bG v w c a f d e).aY,(bG v w c a f d e).o3,(bG v w c a f d e).kw⟩ (bG v w c a f d e).b 0 64)) (bG v w c a f d e).v (bG v w c a f d e).o (bG v w c a f d e).ku
structure K2 where
 (v w:U 8)(o iy c5 Su ao2:Nat)
def K3(a:List af)(b:List ah):Option K2:=
 match a with
 |[.ref (.sl 0 (.s c) (.s d) (some (.s e))),.ref (.sl 1 (.s f) (.s g) none)]=>
  match b with
  |[⟨.ag v,.own⟩,⟨.ag w,.ro⟩]=>some ⟨v,w,c,d,e,f,g⟩|_=>none
 |_=>none
def nW:bT K2 where
 d0:=⟨0,0,0,0,0,0,0⟩
 read:=K3
 args:=fun⟨_,_,d,b,a,e,c⟩=>[.ref (.sl 0 (.s d) (.s b) (some (.s a))),.ref (.sl 1 (.s e) (.s c) none)]
 heap:=fun⟨v,w,_,_,_,_,_⟩=>[⟨.ag v,.own⟩,⟨.ag w,.ro⟩]
 out:=fun⟨v,w,d,b,a,e,c⟩=>[⟨.ag (ga v w d b a e c),.own⟩,⟨.ag w,.ro⟩]
 val:=fun⟨_,_,_,_,_,_,_⟩=>(.bx [])
 aS:=fun⟨v,w,d,b,a,e,c⟩=>decide (1≤b∧b≤a∧d+a≤v.n∧a≤1099511627776∧e+c≤w.n∧c≤1099511627776)
def aff:nW.Rd:=by
 intro a b d h;change K3 a b=some d at h;unfold K3 at h;repeat' split at h
 all_goals cases h
 exact⟨rfl,rfl⟩
def h1(v w:U 8)(d a c e b:Nat):nW.cB ⟨v,w,d,a,c,e,b⟩ (b6 2) (bY tW wo 42) [true,true] [⟨.ag (e9 (gE (qV (a:Int) w a e b)) v d (a:Int)),.own⟩,⟨.ag w,.ro⟩] (.bx []) [decide ((0≤(an (an 0 4) b)∧((an (an 0 4) b)≤128∧(1≤(a:Int)∧((a:Int)≤64∧(a≤c∧(((d+(0:Nat))+c)≤v.n∧c≤1099511627776))))))),((true&&true)&&decide (0≤(c:Int))),(decide ((a:Int)≤64)==true),decide ((0≤(an 0 4)∧((an 0 4)≤128∧((e+b)≤w.n∧(b≤1099511627776∧(((bK (0#64) 0 4).toNat+b)+256)≤1152921504606846976))))),decide (((0:Int)≤0∧((0:Int)≤128∧((0+4)≤64∧(4≤1099511627776∧(((0#64).toNat+4)+256)≤1152921504606846976))))),decide ((1≤(a:Int)∧(a:Int)≤64)),(decide ((a:Int)<64)==true)]:=by show _=_;kernel_rfl
def h2(v w:U 8)(d c b e a:Nat):nW.cB ⟨v,w,d,c,b,e,a⟩ (b6 2) (bY tW wo 42) [false,true] [⟨.ag (e9 (gE (qV 64 w c e a)) v d 64),.own⟩,⟨.ag w,.ro⟩] (.bx []) [decide ((0≤(an (an 0 4) a)∧((an (an 0 4) a)≤128∧((1:Int)≤64∧((64:Int)≤64∧(64≤b∧(((d+(0:Nat))+b)≤v.n∧b≤1099511627776))))))),((true&&true)&&decide (0≤(b:Int))),(decide ((c:Int)≤64)==true),decide ((0≤(an 0 4)∧((an 0 4)≤128∧((e+a)≤w.n∧(a≤1099511627776∧(((bK (0#64) 0 4).toNat+a)+256)≤1152921504606846976))))),decide (((0:Int)≤0∧((0:Int)≤128∧((0+4)≤64∧(4≤1099511627776∧(((0#64).toNat+4)+256)≤1152921504606846976))))),decide (((1:Int)≤64∧(64:Int)≤64)),(decide ((c:Int)<64)==false)]:=by show _=_;kernel_rfl
def h3(v w:U 8)(e a d f c:Nat):nW.cB ⟨v,w,e,a,d,f,c⟩ (b6 2) (bY tW wo 42) (bE 3 4) [⟨.ag (e9 (gE (jk (AI ((bG v w e a d f c).N-(32*((((bG v w e a d f c).N+31).tdiv 32)-2))) qU) (bG v w e a d f c).b 0 64)) (bG v w e a d f c).v (bG v w e a d f c).o ((bG v w e a d f c).N-(32*((((bG v w e a d f c).N+31).tdiv 32)-2)))),.own⟩,⟨.ag w,.ro⟩] (.bx []) [decide ((0≤(an 0 (64:Nat))∧((an 0 (64:Nat))≤128∧(1≤((bG v w e a d f c).N-(32*((Int.tdiv ((bG v w e a d f c).N+31) 32)-2)))∧(((bG v w e a d f c).N-(32*((Int.tdiv ((bG v w e a d f c).N+31) 32)-2)))≤64∧(((((bG v w e a d f c).N-(32*((Int.tdiv ((bG v w e a d f c).N+31) 32)-2)))):Int).toNat≤((bG v w e a d f c).c5-(0:Nat))∧((((bG v w e a d f c).o+(0:Nat))+((bG v w e a d f c).c5-(0:Nat)))≤(bG v w e a d f c).v.n∧((bG v w e a d f c).c5-(0:Nat))≤1099511627776))))))),((true&&true)&&decide ((0:Int)≤(((bG v w e a d f c).c5:Nat):Int))),decide (((0:Int)≤0∧((0:Int)≤128∧((0+(64:Nat))≤(bG v w e a d f c).b.n∧((64:Nat)≤1099511627776∧(((0#64).toNat+(64:Nat))+256)≤1152921504606846976))))),decide (64≤(bG v w e a d f c).b.n),decide ((1≤((bG v w e a d f c).N-(32*((Int.tdiv ((bG v w e a d f c).N+31) 32)-2)))∧((bG v w e a d f c).N-(32*((Int.tdiv ((bG v w e a d f c).N+31) 32)-2)))≤64)),bV ((bG v w e a d f c).N-(32*((Int.tdiv ((bG v w e a d f c).N+31) 32)-2))),bV (32*((Int.tdiv ((bG v w e a d f c).N+31) 32)-2)),bV ((Int.tdiv ((bG v w e a d f c).N+31) 32)-2),decide ((0≤((bG v w e a d f c).N+31)∧((0:Int)<32∧((bG v w e a d f c).N+31)≤9223372036854775807))),bV ((bG v w e a d f c).N+31),(decide (0<(Int.tmod (bG v w e a d f c).N 64))==true),decide ((64:Int)≠0),decide ((((e+32)+(d-32))≤v.n∧((a-32)≤(d-32)∧((d-32)≤1099511627776∧((64:Nat)=64∧((1:Int)≤64∧((64:Int)≤64∧((0:Int)=0∧(0#64).toNat≤1000000)))))))),(decide (32≤(a:Int))&&decide ((a:Int)≤(d:Int))),decide ((e+(Nat.min 32 a))≤v.n),decide ((0+(Nat.min 32 a))≤64),decide ((64:Nat)≤64),decide (((0:Int)≤64∧(64:Int)≤64)),decide ((0≤(an (an 0 4) c)∧((an (an 0 4) c)≤128∧((1:Int)≤64∧((64:Int)≤64∧((64:Nat)≤64∧((0+64)≤64∧64≤1099511627776))))))),(decide ((a:Int)≤64)==false),decide ((0≤(an 0 4)∧((an 0 4)≤128∧((f+c)≤w.n∧(c≤1099511627776∧(((bK (0#64) 0 4).toNat+c)+256)≤1152921504606846976))))),decide (((0:Int)≤0∧((0:Int)≤128∧((0+4)≤64∧(4≤1099511627776∧(((0#64).toNat+4)+256)≤1152921504606846976))))),decide (((1:Int)≤64∧(64:Int)≤64)),(decide ((a:Int)<64)==false)]:=by show _=_;kernel_rfl
def h4(v w:U 8)(e a d f c:Nat):nW.cB ⟨v,w,e,a,d,f,c⟩ (b6 2) (bY tW wo 42) (bE 3 0) [⟨.ag (e9 (gE (jk ⟨(bG v w e a d f c).h,(bG v w e a d f c).aY,(bG v w e a d f c).o3,(bG v w e a d f c).kw⟩ (bG v w e a d f c).b 0 64)) (bG v w e a d f c).v (bG v w e a d f c).o (bG v w e a d f c).ku),.own⟩,⟨.ag w,.ro⟩] (.bx []) [decide ((0≤(an (bG v w e a d f c).kw (64:Nat))∧((an (bG v w e a d f c).kw (64:Nat))≤128∧(1≤(bG v w e a d f c).ku∧((bG v w e a d f c).ku≤64∧((((bG v w e a d f c).ku):Int).toNat≤((bG v w e a d f c).c5-(0:Nat))∧((((bG v w e a d f c).o+(0:Nat))+((bG v w e a d f c).c5-(0:Nat)))≤(bG v w e a d f c).v.n∧((bG v w e a d f c).c5-(0:Nat))≤1099511627776))))))),((true&&true)&&decide ((0:Int)≤(((bG v w e a d f c).c5:Nat):Int))),decide ((0≤(bG v w e a d f c).kw∧((bG v w e a d f c).kw≤128∧((0+(64:Nat))≤(bG v w e a d f c).b.n∧((64:Nat)≤1099511627776∧((((bG v w e a d f c).aY).toNat+(64:Nat))+256)≤1152921504606846976))))),decide (64≤(bG v w e a d f c).b.n),(decide (0<(Int.tmod (bG v w e a d f c).N 64))==false),decide ((64:Int)≠0),decide ((((e+32)+(d-32))≤v.n∧((a-32)≤(d-32)∧((d-32)≤1099511627776∧((64:Nat)=64∧((1:Int)≤64∧((64:Int)≤64∧((0:Int)=0∧(0#64).toNat≤1000000)))))))),(decide (32≤(a:Int))&&decide ((a:Int)≤(d:Int))),decide ((e+(Nat.min 32 a))≤v.n),decide ((0+(Nat.min 32 a))≤64),decide ((64:Nat)≤64),decide (((0:Int)≤64∧(64:Int)≤64)),decide ((0≤(an (an 0 4) c)∧((an (an 0 4) c)≤128∧((1:Int)≤64∧((64:Int)≤64∧((64:Nat)≤64∧((0+64)≤64∧64≤1099511627776))))))),(decide ((a:Int)≤64)==false),decide ((0≤(an 0 4)∧((an 0 4)≤128∧((f+c)≤w.n∧(c≤1099511627776∧(((bK (0#64) 0 4).toNat+c)+256)≤1152921504606846976))))),decide (((0:Int)≤0∧((0:Int)≤128∧((0+4)≤64∧(4≤1099511627776∧(((0#64).toNat+4)+256)≤1152921504606846976))))),decide (((1:Int)≤64∧(64:Int)≤64)),(decide ((a:Int)<64)==false)]:=by show _=_;kernel_rfl
def Db{a:Nat}:(gI a).n=64:=rfl
def Gt:bK 0#64 0 4=0#64:=rfl
structure afg(w0:U 8)(afh Ar Sv afi k:Nat)(d:tX):Prop where
 aoH:d.w=w0
 aoI:d.b.n=64
 XX:d.v.n=afh
 aoJ:d.ku=64
 aoK:d.kw=0
 aoL:d.aY=0#64
 ao3:d.h=b7 64
 ao4:d.o=Ar+32+32*k
 ao5:d.iy=Sv-32-32*k
 ao6:d.c5=afi-32-32*k
 ao7:d.N=(Sv:Int)
def AJ(v w:U 8)(a c e f g:Nat):∀k,afg w v.n a c e k (iter mb k (p8 v w a c e f g))
 |0=>⟨rfl,(Gs _ _ _ _).trans Db,KZ _ _ _,rfl,rfl,rfl,rfl,rfl,rfl,rfl,rfl⟩|k+1=>by
  have h:=AJ v w a c e f g k;rw[gB];generalize iter mb k (p8 v w a c e f g)=d at h;obtain⟨v',w',b,u,x,y,z,A,B,j,l,m,N⟩:=d;obtain⟨h1,h2,h3,h4,o,p,q,r,s,t,i⟩:=h;simp only at h1 h2 h3 h4 o p q r s t i;subst h4;exact⟨h1,(Gs _ _ _ _).trans h2,(KZ _ _ _).trans h3,rfl,rfl,rfl,rfl,by show j+32=_;omega,by show l-32=_;omega,by show m-32=_;omega,i⟩
def Sw:br 42 nW.spec:=by
 refine nW.ok (dm St (afe _)) aff ?_;rintro⟨v,w,d,c,g,f,e⟩ y;have y:=aZ y;have k:∀a b:Nat,Nat.min a b=min a b:=fun _ _=>rfl;have l:(0#64).toNat=0:=rfl;have w1:=Da 0 4 (by omega) (by omega);have B:=Da (an 0 4) e w1.1 w1.2;have C:=Da 0 64 (by omega) (by omega);by_cases h1:c≤64
 ·by_cases h2:c<64
  ·have i:nW.out ⟨v,w,d,c,g,f,e⟩=([⟨.ag (e9 (gE (qV (c:Int) w c f e)) v d (c:Int)),.own⟩,⟨.ag w,.ro⟩]:List ah):=by
    show([⟨.ag (ga v w d c g f e),.own⟩,⟨.ag w,.ro⟩]:List ah)=_;unfold ga;rw[av h1]
    try rfl
   rw[i];refine⟨[true,true],some [0,1],_,Go.Proofs.YtcminalaicidiaaGreatDoor.h1 v w d c g f e,?_⟩
   repeat'(refine ax ?_ ?_)
   all_goals first|exact aV|(simp only[cz,eC,H6,gz,gd,k,l,Gt]<;>omega)
  ·obtain rfl:c=64:=by omega
   have i:nW.out ⟨v,w,d,64,g,f,e⟩=([⟨.ag (e9 (gE (qV 64 w 64 f e)) v d 64),.own⟩,⟨.ag w,.ro⟩]:List ah):=by
    show([⟨.ag (ga v w d 64 g f e),.own⟩,⟨.ag w,.ro⟩]:List ah)=_;unfold ga;rw[av h1];rfl
   rw[i];refine⟨[false,true],some [0,1],_,Go.Proofs.YtcminalaicidiaaGreatDoor.h2 v w d 64 g f e,?_⟩
   repeat'(refine ax ?_ ?_)
   all_goals first|exact aV|(simp only[cz,eC,H6,gz,gd,k,l,Gt]<;>omega)
 ·obtain⟨z,m,p,q,r,s,D,t,E,u,j⟩:=AJ v w d c g f e ((c-32-33)/32);have z:(bG v w d c g f e).w=w:=z;have m:(bG v w d c g f e).b.n=64:=m;have p:(bG v w d c g f e).v.n=v.n:=p;have q:(bG v w d c g f e).ku=64:=q;have r:(bG v w d c g f e).kw=0:=r;have s:(bG v w d c g f e).aY=0#64:=s;have t:(bG v w d c g f e).o=d+32+32*((c-32-33)/32):=t;have u:(bG v w d c g f e).c5=g-32-32*((c-32-33)/32):=u;have j:(bG v w d c g f e).N=(c:Int):=j;have A:((c:Int)+31).tdiv 32=((c:Int)+31)/32:=pK (by omega);have x:(c:Int).tmod 64=(c:Int)%64:=oz (by omega);by_cases h3:0<(bG v w d c g f e).N.tmod 64
  ·have h4:=h3;rw[j,x]at h4;have i:nW.out ⟨v,w,d,c,g,f,e⟩=([⟨.ag (e9 (gE (jk (AI ((bG v w d c g f e).N-(32*(((bG v w d c g f e).N+31).tdiv 32-2))) qU) (bG v w d c g f e).b 0 64)) (bG v w d c g f e).v (bG v w d c g f e).o ((bG v w d c g f e).N-(32*(((bG v w d c g f e).N+31).tdiv 32-2)))),.own⟩,⟨.ag w,.ro⟩]:List ah):=by
    show([⟨.ag (ga v w d c g f e),.own⟩,⟨.ag w,.ro⟩]:List ah)=_;unfold ga;rw[ak h1,av h3]
    try rfl
   rw[i];refine⟨(bE 3 4),some [0,1],_,Go.Proofs.YtcminalaicidiaaGreatDoor.h3 v w d c g f e,?_⟩
   repeat'(refine ax ?_ ?_)
   all_goals first|exact aV|(simp only[cz,eC,H6,gz,gd,k,l,Gt,m,p,q,r,s,t,u,j,A,x]<;>omega)
  ·have h4:=h3;rw[j,x]at h4;have i:nW.out ⟨v,w,d,c,g,f,e⟩=([⟨.ag (e9 (gE (jk ⟨(bG v w d c g f e).h,(bG v w d c g f e).aY,(bG v w d c g f e).o3,(bG v w d c g f e).kw⟩ (bG v w d c g f e).b 0 64)) (bG v w d c g f e).v (bG v w d c g f e).o (bG v w d c g f e).ku),.own⟩,⟨.ag w,.ro⟩]:List ah):=by
    show([⟨.ag (ga v w d c g f e),.own⟩,⟨.ag w,.ro⟩]:List ah)=_;unfold ga;rw[ak h1,ak h3]
    try rfl
   rw[i];refine⟨(bE 3 0),some [0,1],_,Go.Proofs.YtcminalaicidiaaGreatDoor.h4 v w d c g f e,?_⟩
   repeat'(refine ax ?_ ?_)
   all_goals first|exact aV|(simp only[cz,eC,H6,gz,gd,k,l,Gt,m,p,q,r,s,t,u,j,A,x]<;>omega)
end
section
open Go.aA
variable [aR][aF][bq]
variable{c:BitVec 64}{P:Int}{Q:Nat}
def Sx:aA.Spec:=fK iQ.spec tU.spec
def afj:br 119 Sx:=dy.or Sn aeR
def Gu:FuncId→Option aA.Spec|56=>some AH.spec|119=>some Sx|118=>some qT.spec|_=>none
def Sy:∀f a,Gu f=some a→br f a:=by
 intro f a h;unfold Gu at h;split at h
 ·cases h;exact Ss
 ·cases h;exact afj
 ·cases h;exact Sq
 ·cases h
def Sz(t m p k a:BitVec 32):U 8:=U.of [(p>>>0).setWidth 8,(p>>>8).setWidth 8,(p>>>16).setWidth 8,(p>>>24).setWidth 8,(k>>>0).setWidth 8,(k>>>8).setWidth 8,(k>>>16).setWidth 8,(k>>>24).setWidth 8,(m>>>0).setWidth 8,(m>>>8).setWidth 8,(m>>>16).setWidth 8,(m>>>24).setWidth 8,(t>>>0).setWidth 8,(t>>>8).setWidth 8,(t>>>16).setWidth 8,(t>>>24).setWidth 8,19#8,0#8,0#8,0#8,(a>>>0).setWidth 8,(a>>>8).setWidth 8,(a>>>16).setWidth 8,(a>>>24).setWidth 8]
def wq(n:Nat):U 8:=U.of [((BitVec.ofInt 32 (n:Int))>>>0).setWidth 8,((BitVec.ofInt 32 (n:Int))>>>8).setWidth 8,((BitVec.ofInt 32 (n:Int))>>>16).setWidth 8,((BitVec.ofInt 32 (n:Int))>>>24).setWidth 8]
def p9(d:kB)(v:U 8)(a n:Nat):kB:=jk (jk d (wq n) 0 4) v a n
def afk(d:kB):kB:=⟨eta d.h,d.c,cy d.x,d.n+0⟩
def Fj(d:kB):kB:=afk (jk d (U.of [0#8,0#8,0#8,0#8]) 0 4)
def SA:U 8:=U.of (List.replicate 72 0#8)
def K4(t m p k:BitVec 32)(a:Int):kB:=jk (AI 64 qU) (Sz t m p k (BitVec.ofInt 32 a)) 0 24
def Dc(a b c d:U 8)(e f g h i j l n:Nat)(t m p k:BitVec 32)(o:Int):kB:=p9 (p9 (p9 (p9 (K4 t m p k o) a e f) b g h) c i j) d l n
def SB(a b:U 8)(d e f g:Nat)(t m p k:BitVec 32)(h:Int):kB:=Fj (Fj (p9 (p9 (K4 t m p k h) a d e) b f g))
def AK(d:kB):U 8:=e9 (gE d) SA 0 64
def K5(c:BitVec 64):∀(k:Nat),c.toNat+128*k<1152921504606847232→(gN c k).toNat=c.toNat+128*k
 |0,_=>rfl|k+1,h=>by
  have:=K5 c k (by omega)
  show(gN c k+128#64).toNat=_;rw[eD,show(128#64).toNat=128 from rfl];omega
def afl(c:BitVec 64)(P:Int)(a:Nat)(e:0≤P)(h:c.toNat+a+256≤1152921504606846976):(bK c P a).toNat≤c.toNat+a+128:=by
 have d:(128#64).toNat=128:=rfl;have b:(c+128#64).toNat=c.toNat+128:=by have:=c.isLt;rw[eD,d];omega
 have f:128*aO a≤a:=by unfold aO;omega
 have g:128*aO (a-(128-P).toNat)≤a:=by unfold aO;omega
 unfold bK;split
 ·split
  ·omega
  ·rw[K5 _ _ (by rw[b];omega),b];omega
 ·rw[K5 _ _ (by omega)];omega
def me(Q:Nat)(h:(0≤P∧P≤128)∧c.toNat≤Q)(a:Nat)(b:Q+a+256≤1152921504606846976):(0≤an P a∧an P a≤128)∧(bK c P a).toNat≤Q+a+128:=by
 refine⟨Da P a h.1.1 h.1.2,?_⟩;have:=afl c P a h.1.1 (by omega);omega
def SC(h:(0≤P∧P≤128)∧c.toNat≤Q):(0≤P+0∧P+0≤128)∧c.toNat≤Q:=by rw[Int.add_zero];exact h
def mg{b a n:Nat}(h:(0≤P∧P≤128)∧c.toNat≤Q)(d:b+a≤n)(e:a≤1000000)(f:Q≤100000000):decide (0≤P∧P≤128∧b+a≤n∧a≤1099511627776∧c.toNat+a+256≤1152921504606846976)=true:=
 bl ⟨h.1.1,h.1.2,d,by omega,by omega⟩
structure K6 where
 (a b c e:U 8)(bA na bz nb bH bD bO ne:Nat)(t m p k:BitVec 32)(aM:Int)
def K7(a:List af)(Q:List ah):Option K6:=
 match a with
 |[.ref (.sl 0 (.s d) (.s e) none),.ref (.sl 1 (.s f) (.s g) none),.ref (.sl 2 (.s h) (.s i) none),.ref (.sl 3 (.s j) (.s l) none),.num (.aD t),.num (.aD m),.num (.aD p),.num (.aD k),.num (.int .i64 (.s n))]=>
  match Q with
  |[⟨.ag a,.ro⟩,⟨.ag b,.ro⟩,⟨.ag c,.ro⟩,⟨.ag o,.ro⟩]=>some ⟨a,b,c,o,d,e,f,g,h,i,j,l,t,m,p,k,n⟩|_=>none
 |_=>none
def AL:bT K6 where
 d0:=⟨0,0,0,0,0,0,0,0,0,0,0,0,0,0,0,0,0⟩
 read:=K7
 args:=fun⟨_,_,_,_,h,d,i,e,j,f,l,g,t,m,p,k,q⟩=>[.ref (.sl 0 (.s h) (.s d) none),.ref (.sl 1 (.s i) (.s e) none),.ref (.sl 2 (.s j) (.s f) none),.ref (.sl 3 (.s l) (.s g) none),.num (.aD t),.num (.aD m),.num (.aD p),.num (.aD k),.aq q]
 heap:=fun⟨a,b,c,o,_,_,_,_,_,_,_,_,_,_,_,_,_⟩=>[⟨.ag a,.ro⟩,⟨.ag b,.ro⟩,⟨.ag c,.ro⟩,⟨.ag o,.ro⟩]
 val:=fun⟨a,b,c,o,h,d,i,e,j,f,l,g,t,m,p,k,q⟩=>(.agg (jY (AK (Dc a b c o h d i e j f l g t m p k q)) 72))
 aS:=fun⟨a,b,c,o,h,d,i,e,j,f,l,g,_,_,_,_,_⟩=>decide (h+d≤a.n∧d≤1000000∧i+e≤b.n∧e≤1000000∧j+f≤c.n∧f≤1000000∧l+g≤o.n∧g≤1000000)
def afm(a b c h:U 8)(i d j e l f o g:Nat)(t m p k:BitVec 32)(q:Int):AL.fS ⟨a,b,c,h,i,d,j,e,l,f,o,g,t,m,p,k,q⟩ (b6 4) (bY Gu aQ 31) [] [decide ((72:Nat)≤72),decide ((0≤(an (an (an (an (an (an (an (an (an 0 (24:Nat)) (4:Nat)) d) (4:Nat)) e) (4:Nat)) f) (4:Nat)) g)∧((an (an (an (an (an (an (an (an (an 0 (24:Nat)) (4:Nat)) d) (4:Nat)) e) (4:Nat)) f) (4:Nat)) g)≤128∧((1:Int)≤64∧((64:Int)≤64∧((64:Nat)≤72∧((0+72)≤72∧72≤1099511627776))))))),decide ((0≤(an (an (an (an (an (an (an (an 0 (24:Nat)) (4:Nat)) d) (4:Nat)) e) (4:Nat)) f) (4:Nat))∧((an (an (an (an (an (an (an (an 0 (24:Nat)) (4:Nat)) d) (4:Nat)) e) (4:Nat)) f) (4:Nat))≤128∧((o+g)≤h.n∧(g≤1099511627776∧((((bK (bK (bK (bK (bK (bK (bK (bK (0#64) 0 (24:Nat)) (an 0 (24:Nat)) (4:Nat)) (an (an 0 (24:Nat)) (4:Nat)) d) (an (an (an 0 (24:Nat)) (4:Nat)) d) (4:Nat)) (an (an (an (an 0 (24:Nat)) (4:Nat)) d) (4:Nat)) e) (an (an (an (an (an 0 (24:Nat)) (4:Nat)) d) (4:Nat)) e) (4:Nat)) (an (an (an (an (an (an 0 (24:Nat)) (4:Nat)) d) (4:Nat)) e) (4:Nat)) f) (an (an (an (an (an (an (an 0 (24:Nat)) (4:Nat)) d) (4:Nat)) e) (4:Nat)) f) (4:Nat))).toNat+g)+256)≤1152921504606846976))))),decide ((0≤(an (an (an (an (an (an (an 0 (24:Nat)) (4:Nat)) d) (4:Nat)) e) (4:Nat)) f)∧((an (an (an (an (an (an (an 0 (24:Nat)) (4:Nat)) d) (4:Nat)) e) (4:Nat)) f)≤128∧((0+(4:Nat))≤4∧((4:Nat)≤1099511627776∧((((bK (bK (bK (bK (bK (bK (bK (0#64) 0 (24:Nat)) (an 0 (24:Nat)) (4:Nat)) (an (an 0 (24:Nat)) (4:Nat)) d) (an (an (an 0 (24:Nat)) (4:Nat)) d) (4:Nat)) (an (an (an (an 0 (24:Nat)) (4:Nat)) d) (4:Nat)) e) (an (an (an (an (an 0 (24:Nat)) (4:Nat)) d) (4:Nat)) e) (4:Nat)) (an (an (an (an (an (an 0 (24:Nat)) (4:Nat)) d) (4:Nat)) e) (4:Nat)) f)).toNat+(4:Nat))+256)≤1152921504606846976))))),decide ((0≤(an (an (an (an (an (an 0 (24:Nat)) (4:Nat)) d) (4:Nat)) e) (4:Nat))∧((an (an (an (an (an (an 0 (24:Nat)) (4:Nat)) d) (4:Nat)) e) (4:Nat))≤128∧((l+f)≤c.n∧(f≤1099511627776∧((((bK (bK (bK (bK (bK (bK (0#64) 0 (24:Nat)) (an 0 (24:Nat)) (4:Nat)) (an (an 0 (24:Nat)) (4:Nat)) d) (an (an (an 0 (24:Nat)) (4:Nat)) d) (4:Nat)) (an (an (an (an 0 (24:Nat)) (4:Nat)) d) (4:Nat)) e) (an (an (an (an (an 0 (24:Nat)) (4:Nat)) d) (4:Nat)) e) (4:Nat))).toNat+f)+256)≤1152921504606846976))))),decide ((0≤(an (an (an (an (an 0 (24:Nat)) (4:Nat)) d) (4:Nat)) e)∧((an (an (an (an (an 0 (24:Nat)) (4:Nat)) d) (4:Nat)) e)≤128∧((0+(4:Nat))≤4∧((4:Nat)≤1099511627776∧((((bK (bK (bK (bK (bK (0#64) 0 (24:Nat)) (an 0 (24:Nat)) (4:Nat)) (an (an 0 (24:Nat)) (4:Nat)) d) (an (an (an 0 (24:Nat)) (4:Nat)) d) (4:Nat)) (an (an (an (an 0 (24:Nat)) (4:Nat)) d) (4:Nat)) e)).toNat+(4:Nat))+256)≤1152921504606846976))))),decide ((0≤(an (an (an (an 0 (24:Nat)) (4:Nat)) d) (4:Nat))∧((an (an (an (an 0 (24:Nat)) (4:Nat)) d) (4:Nat))≤128∧((j+e)≤b.n∧(e≤1099511627776∧((((bK (bK (bK (bK (0#64) 0 (24:Nat)) (an 0 (24:Nat)) (4:Nat)) (an (an 0 (24:Nat)) (4:Nat)) d) (an (an (an 0 (24:Nat)) (4:Nat)) d) (4:Nat))).toNat+e)+256)≤1152921504606846976))))),decide ((0≤(an (an (an 0 (24:Nat)) (4:Nat)) d)∧((an (an (an 0 (24:Nat)) (4:Nat)) d)≤128∧((0+(4:Nat))≤4∧((4:Nat)≤1099511627776∧((((bK (bK (bK (0#64) 0 (24:Nat)) (an 0 (24:Nat)) (4:Nat)) (an (an 0 (24:Nat)) (4:Nat)) d)).toNat+(4:Nat))+256)≤1152921504606846976))))),decide ((0≤(an (an 0 (24:Nat)) (4:Nat))∧((an (an 0 (24:Nat)) (4:Nat))≤128∧((i+d)≤a.n∧(d≤1099511627776∧((((bK (bK (0#64) 0 (24:Nat)) (an 0 (24:Nat)) (4:Nat))).toNat+d)+256)≤1152921504606846976))))),decide ((0≤(an 0 (24:Nat))∧((an 0 (24:Nat))≤128∧((0+(4:Nat))≤4∧((4:Nat)≤1099511627776∧(((bK (0#64) 0 (24:Nat)).toNat+(4:Nat))+256)≤1152921504606846976))))),decide (((0:Int)≤0∧((0:Int)≤128∧((0+(24:Nat))≤24∧((24:Nat)≤1099511627776∧(((0#64).toNat+(24:Nat))+256)≤1152921504606846976))))),decide (((1:Int)≤64∧(64:Int)≤64))]:=by show _=_;kernel_rfl
def afn:AL.Rd:=by
 intro a Q d h;change K7 a Q=some d at h;unfold K7 at h;repeat' split at h
 all_goals cases h
 exact⟨rfl,rfl⟩
def afo:br 31 AL.spec:=by
 refine AL.ok (dm Sy (cK _)) afn ?_;rintro⟨a,b,c,v,w,e,x,f,y,g,z,h,t,m,p,k,A⟩ d;have d:=aZ d;refine⟨[],(b6 4),_,afm a b c v w e x f y g z h t m p k A,?_⟩;have i:((0:Int)≤0∧(0:Int)≤128)∧(0#64).toNat≤0:=⟨⟨by omega,by omega⟩,aX _⟩;have j:=me (0) i 24 (by omega);have l:=me (0+24+128) j 4 (by omega);have n:=me (0+24+128+4+128) l e (by omega);have o:=me (0+24+128+4+128+e+128) n 4 (by omega);have q:=me (0+24+128+4+128+e+128+4+128) o f (by omega);have r:=me (0+24+128+4+128+e+128+4+128+f+128) q 4 (by omega);have s:=me (0+24+128+4+128+e+128+4+128+f+128+4+128) r g (by omega);have u:=me (0+24+128+4+128+e+128+4+128+f+128+4+128+g+128) s 4 (by omega);have tY:=me (0+24+128+4+128+e+128+4+128+f+128+4+128+g+128+4+128) u h (by omega);exact ax (rfl) (ax (bl ⟨tY.1.1,tY.1.2,by decide,by decide,by decide,by decide,by decide⟩) (ax (mg u (d.2.2.2.2.2.2.1) (d.2.2.2.2.2.2.2) (by omega)) (ax (mg s (by decide) (by decide) (by omega)) (ax (mg r (d.2.2.2.2.1) (d.2.2.2.2.2.1) (by omega)) (ax (mg q (by decide) (by decide) (by omega)) (ax (mg o (d.2.2.1) (d.2.2.2.1) (by omega)) (ax (mg n (by decide) (by decide) (by omega)) (ax (mg l (d.1) (d.2.1) (by omega)) (ax (mg j (by decide) (by decide) (by omega)) (ax (mg i (by decide) (by decide) (by omega)) (ax (rfl) (aV))))))))))))
structure K8 where
 (a b:U 8)(bA na bz nb:Nat)(t m p k:BitVec 32)(aM:Int)
def K9(a:List af)(Q:List ah):Option K8:=
 match a with
 |[.ref (.sl 0 (.s d) (.s e) none),.ref (.sl 1 (.s f) (.s g) none),.atom .cI,.atom .cI,.num (.aD t),.num (.aD m),.num (.aD p),.num (.aD k),.num (.int .i64 (.s h))]=>
  match Q with
  |[⟨.ag a,.ro⟩,⟨.ag b,.ro⟩]=>some ⟨a,b,d,e,f,g,t,m,p,k,h⟩|_=>none
 |_=>none
def AM:bT K8 where
 d0:=⟨0,0,0,0,0,0,0,0,0,0,0⟩
 read:=K9
 args:=fun⟨_,_,f,d,g,e,t,m,p,k,h⟩=>[.ref (.sl 0 (.s f) (.s d) none),.ref (.sl 1 (.s g) (.s e) none),.atom .cI,.atom .cI,.num (.aD t),.num (.aD m),.num (.aD p),.num (.aD k),.aq h]
 heap:=fun⟨a,b,_,_,_,_,_,_,_,_,_⟩=>[⟨.ag a,.ro⟩,⟨.ag b,.ro⟩]
 val:=fun⟨a,b,f,d,g,e,t,m,p,k,h⟩=>(.agg (jY (AK (SB a b f d g e t m p k h)) 72))
 aS:=fun⟨a,b,f,d,g,e,_,_,_,_,_⟩=>decide (f+d≤a.n∧d≤1000000∧g+e≤b.n∧e≤1000000)
def afp(a b:U 8)(f d g e:Nat)(t m p k:BitVec 32)(h:Int):AM.fS ⟨a,b,f,d,g,e,t,m,p,k,h⟩ (b6 2) (bY Gu aQ 31) [] [decide ((72:Nat)≤72),decide ((0≤((an ((an (an (an (an (an (an 0 (24:Nat)) (4:Nat)) d) (4:Nat)) e) (4:Nat))+0) (4:Nat))+0)∧(((an ((an (an (an (an (an (an 0 (24:Nat)) (4:Nat)) d) (4:Nat)) e) (4:Nat))+0) (4:Nat))+0)≤128∧((1:Int)≤64∧((64:Int)≤64∧((64:Nat)≤72∧((0+72)≤72∧72≤1099511627776))))))),decide ((0≤(an ((an (an (an (an (an (an 0 (24:Nat)) (4:Nat)) d) (4:Nat)) e) (4:Nat))+0) (4:Nat))∧(an ((an (an (an (an (an (an 0 (24:Nat)) (4:Nat)) d) (4:Nat)) e) (4:Nat))+0) (4:Nat))≤128)),decide ((0≤((an (an (an (an (an (an 0 (24:Nat)) (4:Nat)) d) (4:Nat)) e) (4:Nat))+0)∧(((an (an (an (an (an (an 0 (24:Nat)) (4:Nat)) d) (4:Nat)) e) (4:Nat))+0)≤128∧((0+(4:Nat))≤4∧((4:Nat)≤1099511627776∧((((bK (bK (bK (bK (bK (bK (0#64) 0 (24:Nat)) (an 0 (24:Nat)) (4:Nat)) (an (an 0 (24:Nat)) (4:Nat)) d) (an (an (an 0 (24:Nat)) (4:Nat)) d) (4:Nat)) (an (an (an (an 0 (24:Nat)) (4:Nat)) d) (4:Nat)) e) (an (an (an (an (an 0 (24:Nat)) (4:Nat)) d) (4:Nat)) e) (4:Nat))).toNat+(4:Nat))+256)≤1152921504606846976))))),decide ((0≤(an (an (an (an (an (an 0 (24:Nat)) (4:Nat)) d) (4:Nat)) e) (4:Nat))∧(an (an (an (an (an (an 0 (24:Nat)) (4:Nat)) d) (4:Nat)) e) (4:Nat))≤128)),decide ((0≤(an (an (an (an (an 0 (24:Nat)) (4:Nat)) d) (4:Nat)) e)∧((an (an (an (an (an 0 (24:Nat)) (4:Nat)) d) (4:Nat)) e)≤128∧((0+(4:Nat))≤4∧((4:Nat)≤1099511627776∧((((bK (bK (bK (bK (bK (0#64) 0 (24:Nat)) (an 0 (24:Nat)) (4:Nat)) (an (an 0 (24:Nat)) (4:Nat)) d) (an (an (an 0 (24:Nat)) (4:Nat)) d) (4:Nat)) (an (an (an (an 0 (24:Nat)) (4:Nat)) d) (4:Nat)) e)).toNat+(4:Nat))+256)≤1152921504606846976))))),decide ((0≤(an (an (an (an 0 (24:Nat)) (4:Nat)) d) (4:Nat))∧((an (an (an (an 0 (24:Nat)) (4:Nat)) d) (4:Nat))≤128∧((g+e)≤b.n∧(e≤1099511627776∧((((bK (bK (bK (bK (0#64) 0 (24:Nat)) (an 0 (24:Nat)) (4:Nat)) (an (an 0 (24:Nat)) (4:Nat)) d) (an (an (an 0 (24:Nat)) (4:Nat)) d) (4:Nat))).toNat+e)+256)≤1152921504606846976))))),decide ((0≤(an (an (an 0 (24:Nat)) (4:Nat)) d)∧((an (an (an 0 (24:Nat)) (4:Nat)) d)≤128∧((0+(4:Nat))≤4∧((4:Nat)≤1099511627776∧((((bK (bK (bK (0#64) 0 (24:Nat)) (an 0 (24:Nat)) (4:Nat)) (an (an 0 (24:Nat)) (4:Nat)) d)).toNat+(4:Nat))+256)≤1152921504606846976))))),decide ((0≤(an (an 0 (24:Nat)) (4:Nat))∧((an (an 0 (24:Nat)) (4:Nat))≤128∧((f+d)≤a.n∧(d≤1099511627776∧((((bK (bK (0#64) 0 (24:Nat)) (an 0 (24:Nat)) (4:Nat))).toNat+d)+256)≤1152921504606846976))))),decide ((0≤(an 0 (24:Nat))∧((an 0 (24:Nat))≤128∧((0+(4:Nat))≤4∧((4:Nat)≤1099511627776∧(((bK (0#64) 0 (24:Nat)).toNat+(4:Nat))+256)≤1152921504606846976))))),decide (((0:Int)≤0∧((0:Int)≤128∧((0+(24:Nat))≤24∧((24:Nat)≤1099511627776∧(((0#64).toNat+(24:Nat))+256)≤1152921504606846976))))),decide (((1:Int)≤64∧(64:Int)≤64))]:=by show _=_;kernel_rfl
def afq:AM.Rd:=by
 intro a Q d h;change K9 a Q=some d at h;unfold K9 at h;repeat' split at h
 all_goals cases h
 exact⟨rfl,rfl⟩
def afr:br 31 AM.spec:=by
 refine AM.ok (dm Sy (cK _)) afq ?_;rintro⟨a,b,s,d,u,f,t,m,p,k,v⟩ e;have e:=aZ e;refine⟨[],(b6 2),_,afp a b s d u f t m p k v,?_⟩;have g:((0:Int)≤0∧(0:Int)≤128)∧(0#64).toNat≤0:=⟨⟨by omega,by omega⟩,aX _⟩;have h:=me (0) g 24 (by omega);have i:=me (0+24+128) h 4 (by omega);have j:=me (0+24+128+4+128) i d (by omega);have l:=me (0+24+128+4+128+d+128) j 4 (by omega);have n:=me (0+24+128+4+128+d+128+4+128) l f (by omega);have o:=me (0+24+128+4+128+d+128+4+128+f+128) n 4 (by omega);have q:=SC o;have r:=me (0+24+128+4+128+d+128+4+128+f+128+4+128) q 4 (by omega);have tY:=SC r;exact ax (rfl) (ax (bl ⟨tY.1.1,tY.1.2,by decide,by decide,by decide,by decide,by decide⟩) (ax (bl r.1) (ax (mg q (by decide) (by decide) (by omega)) (ax (bl o.1) (ax (mg n (by decide) (by decide) (by omega)) (ax (mg l (e.2.2.1) (e.2.2.2) (by omega)) (ax (mg j (by decide) (by decide) (by omega)) (ax (mg i (e.1) (e.2.1) (by omega)) (ax (mg h (by decide) (by decide) (by omega)) (ax (mg g (by decide) (by decide) (by omega)) (ax (rfl) (aV))))))))))))
end
section
open Go.aA
variable [aR][aF][bq]
def nX:FuncId→Option aA.Spec|42=>some nW.spec|43=>some AF.spec|_=>none
def Dd:∀f a,nX f=some a→br f a:=by
 intro f a h;unfold nX at h;split at h
 ·cases h;exact Sw
 ·cases h;exact Sg
 ·cases h
def sB(X:U 64)(b:U 8)(a:Nat)(i:Int):U 64:=X.set (a+i.toNat*1) (gr b (0+(i*8).toNat*1))
structure tZ where
 (h b:U 8)(X:U 64)(M:Nat)(mem p lane j:BitVec 32)(i:Int)
def afs(d:tZ):aI×List ah:=
 match d with
 |⟨h,b,X,M,mem,p,a,j,i⟩=>(⟨[.P 0,.num (.aD mem),.num (.aD p),.aa,.aa,.aa,.atom .cI,.P 1,.ref (.sm 2 (.s M) 128),.num (.aD a),.num (.aD j),.aa,.aa],[⟨41,.aq i⟩]⟩,[⟨.ag h,.own⟩,⟨.ag b,.own⟩,⟨.bt X,.own⟩,cp,cp])
def qW(d:tZ):tZ:=
 match d with
 |⟨h,b,X,M,mem,p,a,j,i⟩=>⟨h,b,sB X b (aT (j+0#32)) i,M,mem,p,a,j,i+1⟩
def La(a:aI)(d:List ah):Option tZ:=
 match a with
 |⟨[.ref (.ptr 0 (.c 0)),.num (.aD mem),.num (.aD p),.atom .aa,.atom .aa,.atom .aa,.atom .cI,.ref (.ptr 1 (.c 0)),.ref (.sm 2 (.s M) 128),.num (.aD e),.num (.aD j),.atom .aa,.atom .aa],[⟨41,.num (.int .i64 (.s i))⟩]⟩=>
  match d with
  |[⟨.ag h,.own⟩,⟨.ag b,.own⟩,⟨.bt X,.own⟩,⟨.gen [],.bn⟩,⟨.gen [],.bn⟩]=>some ⟨h,b,X,M,mem,p,e,j,i⟩|_=>none
 |_=>none
def nY:eN tZ where
 d0:=⟨0,0,0,0,0,0,0,0,0⟩
 read:=La
 ay:=afs
 next:=qW
 rem:=fun⟨_,_,_,_,_,_,_,_,i⟩=>(128-i).toNat
 aS:=fun⟨_,b,X,M,_,_,_,j,i⟩=>decide (0≤i∧i≤128∧b.n=1024∧X.n=M*128∧(j+0#32).toNat<M)
 out:=.exit 2
def aft(h b:U 8)(X:U 64)(M:Nat)(mem p a j:BitVec 32)(i:Int):nY.cB ⟨h,b,X,M,mem,p,a,j,i⟩ (b6 5) (nY.ay (qW ⟨h,b,X,M,mem,p,a,j,i⟩)) (bZ nX aQ 32 1) [true] .normal [bV (i+1),decide (((0+((((((j+(0#32)).toNat:Nat):Int)):Int).toNat*128))+(i.toNat*1))<X.n),(decide (0≤i)&&decide (i<(128:Int))),(decide ((0:Int)≤(((j+(0#32)).toNat:Nat):Int))&&decide ((((j+(0#32)).toNat:Nat):Int)<(M:Int))),decide ((((0+((((i*8)):Int).toNat*1))+8)≤b.n∧((8:Nat)≤((((1024:Int)):Int).toNat-(((i*8)):Int).toNat)∧((((1024:Int)):Int).toNat-(((i*8)):Int).toNat)≤1099511627776))),((decide (0≤(i*8))&&decide ((i*8)≤(1024:Int)))&&true),decide (1024≤b.n),bV (i*8),(decide (i<128)==true)]:=by show _=_;kernel_rfl
def afu(h b:U 8)(X:U 64)(M:Nat)(mem p a j:BitVec 32)(i:Int):nY.cB ⟨h,b,X,M,mem,p,a,j,i⟩ none (nY.fin ⟨h,b,X,M,mem,p,a,j,i⟩) (bZ nX aQ 32 1) [false] nY.out [(decide (i<128)==false)]:=by show _=_;kernel_rfl
def afv:nY.Rd:=by
 intro a b d h;change La a b=some d at h;unfold La at h;repeat' split at h
 all_goals cases h
 rfl
def afw:dc Tryz.prog bB (aj 32) (bN Tryz.prog 32) (bg Tryz.prog 32 1) (bZ nX aQ 32 1):=iw Dd (cK _) 32 1 Aq (by rw[show(cH Tryz.prog 32).length=3 by kernel_rfl];omega)
def afx:eH Tryz.prog bB (aj 32) (bN Tryz.prog 32) (bg Tryz.prog 32 1) nY.T.told:=by
 refine nY.j0 afw (by intro k e;have e:k∈([]:List ah):=e;cases e) (by intro h;cases h) afv ?_ ?_
 ·rintro⟨h,b,X,M,mem,p,a,j,i⟩ g c d;have c:=aZ c;have d:(128-i).toNat=g+1:=d;have l:nY.next ⟨h,b,X,M,mem,p,a,j,i⟩=qW ⟨h,b,X,M,mem,p,a,j,i⟩:=rfl;rw[l];refine⟨⟨[true],(b6 5),_,aft h b X M mem p a j i,?_⟩,?_,?_,(show(nY.ay (qW ⟨h,b,X,M,mem,p,a,j,i⟩)).2.length=5 by kernel_rfl).trans (show(nY.ay ⟨h,b,X,M,mem,p,a,j,i⟩).2.length=5 by kernel_rfl).symm⟩
  ·repeat'(refine ax ?_ ?_)
   all_goals first|exact aV|rfl|(simp only[cz]<;>omega)
  ·have f:nY.aS (qW ⟨h,b,X,M,mem,p,a,j,i⟩)=decide (0≤(i+1:Int)∧(i+1:Int)≤128∧b.n=1024∧(sB X b (aT (j+0#32)) i:U 64).n=M*128∧(j+0#32).toNat<M):=by kernel_rfl
   refine f.trans (bl ?_);have m:(sB X b (aT (j+0#32)) i).n=X.n:=rfl;omega
  ·have f:nY.rem (qW ⟨h,b,X,M,mem,p,a,j,i⟩)=((128-(i+1:Int)).toNat):=by kernel_rfl
   refine f.trans ?_;omega
 ·rintro⟨h,b,X,M,mem,p,a,j,i⟩ c d;have c:=aZ c;have d:(128-i).toNat=0:=d;refine⟨[false],none,_,afu h b X M mem p a j i,?_⟩
  repeat'(refine ax ?_ ?_)
  all_goals first|exact aV|rfl|(simp only[cz]<;>omega)
def Lb:cP:=nY.T.told
def afy:Told 32 1 Lb:=afx.run
structure wu where
 (h b:U 8)(X:U 64)(M:Nat)(mem p lane j:BitVec 32)(i:Int)
def afz(d:wu):aI×List ah:=
 match d with
 |⟨h,b,X,M,mem,p,a,j,i⟩=>(⟨[.P 0,.num (.aD mem),.num (.aD p),.aa,.aa,.aa,.atom .cI,.P 1,.ref (.sm 2 (.s M) 128),.num (.aD a),.num (.aD j),.aa,.aa],[⟨66,.aq i⟩]⟩,[⟨.ag h,.own⟩,⟨.ag b,.own⟩,⟨.bt X,.own⟩,cp,cp,cp])
def qX(d:wu):wu:=
 match d with
 |⟨h,b,X,M,mem,p,a,j,i⟩=>⟨h,b,sB X b (aT (j+1#32)) i,M,mem,p,a,j,i+1⟩
def Lc(a:aI)(d:List ah):Option wu:=
 match a with
 |⟨[.ref (.ptr 0 (.c 0)),.num (.aD mem),.num (.aD p),.atom .aa,.atom .aa,.atom .aa,.atom .cI,.ref (.ptr 1 (.c 0)),.ref (.sm 2 (.s M) 128),.num (.aD e),.num (.aD j),.atom .aa,.atom .aa],[⟨66,.num (.int .i64 (.s i))⟩]⟩=>
  match d with
  |[⟨.ag h,.own⟩,⟨.ag b,.own⟩,⟨.bt X,.own⟩,⟨.gen [],.bn⟩,⟨.gen [],.bn⟩,⟨.gen [],.bn⟩]=>some ⟨h,b,X,M,mem,p,e,j,i⟩|_=>none
 |_=>none
def nZ:eN wu where
 d0:=⟨0,0,0,0,0,0,0,0,0⟩
 read:=Lc
 ay:=afz
 next:=qX
 rem:=fun⟨_,_,_,_,_,_,_,_,i⟩=>(128-i).toNat
 aS:=fun⟨_,b,X,M,_,_,_,j,i⟩=>decide (0≤i∧i≤128∧b.n=1024∧X.n=M*128∧(j+1#32).toNat<M)
 out:=.exit 4
def afA(h b:U 8)(X:U 64)(M:Nat)(mem p a j:BitVec 32)(i:Int):nZ.cB ⟨h,b,X,M,mem,p,a,j,i⟩ (b6 6) (nZ.ay (qX ⟨h,b,X,M,mem,p,a,j,i⟩)) (bZ nX aQ 32 2) [true] .normal [bV (i+1),decide (((0+((((((j+(1#32)).toNat:Nat):Int)):Int).toNat*128))+(i.toNat*1))<X.n),(decide (0≤i)&&decide (i<(128:Int))),(decide ((0:Int)≤(((j+(1#32)).toNat:Nat):Int))&&decide ((((j+(1#32)).toNat:Nat):Int)<(M:Int))),decide ((((0+((((i*8)):Int).toNat*1))+8)≤b.n∧((8:Nat)≤((((1024:Int)):Int).toNat-(((i*8)):Int).toNat)∧((((1024:Int)):Int).toNat-(((i*8)):Int).toNat)≤1099511627776))),((decide (0≤(i*8))&&decide ((i*8)≤(1024:Int)))&&true),decide (1024≤b.n),bV (i*8),(decide (i<128)==true)]:=by show _=_;kernel_rfl
def afB(h b:U 8)(X:U 64)(M:Nat)(mem p a j:BitVec 32)(i:Int):nZ.cB ⟨h,b,X,M,mem,p,a,j,i⟩ none (nZ.fin ⟨h,b,X,M,mem,p,a,j,i⟩) (bZ nX aQ 32 2) [false] nZ.out [(decide (i<128)==false)]:=by show _=_;kernel_rfl
def afC:nZ.Rd:=by
 intro a b d h;change Lc a b=some d at h;unfold Lc at h;repeat' split at h
 all_goals cases h
 rfl
def afD:dc Tryz.prog bB (aj 32) (bN Tryz.prog 32) (bg Tryz.prog 32 2) (bZ nX aQ 32 2):=iw Dd (cK _) 32 2 Aq (by rw[show(cH Tryz.prog 32).length=3 by kernel_rfl];omega)
def afE:eH Tryz.prog bB (aj 32) (bN Tryz.prog 32) (bg Tryz.prog 32 2) nZ.T.told:=by
 refine nZ.j0 afD (by intro k e;have e:k∈([]:List ah):=e;cases e) (by intro h;cases h) afC ?_ ?_
 ·rintro⟨h,b,X,M,mem,p,a,j,i⟩ g c d;have c:=aZ c;have d:(128-i).toNat=g+1:=d;have l:nZ.next ⟨h,b,X,M,mem,p,a,j,i⟩=qX ⟨h,b,X,M,mem,p,a,j,i⟩:=rfl;rw[l];refine⟨⟨[true],(b6 6),_,afA h b X M mem p a j i,?_⟩,?_,?_,(show(nZ.ay (qX ⟨h,b,X,M,mem,p,a,j,i⟩)).2.length=6 by kernel_rfl).trans (show(nZ.ay ⟨h,b,X,M,mem,p,a,j,i⟩).2.length=6 by kernel_rfl).symm⟩
  ·repeat'(refine ax ?_ ?_)
   all_goals first|exact aV|rfl|(simp only[cz]<;>omega)
  ·have f:nZ.aS (qX ⟨h,b,X,M,mem,p,a,j,i⟩)=decide (0≤(i+1:Int)∧(i+1:Int)≤128∧b.n=1024∧(sB X b (aT (j+1#32)) i:U 64).n=M*128∧(j+1#32).toNat<M):=by kernel_rfl
   refine f.trans (bl ?_);have m:(sB X b (aT (j+1#32)) i).n=X.n:=rfl;omega
  ·have f:nZ.rem (qX ⟨h,b,X,M,mem,p,a,j,i⟩)=((128-(i+1:Int)).toNat):=by kernel_rfl
   refine f.trans ?_;omega
 ·rintro⟨h,b,X,M,mem,p,a,j,i⟩ c d;have c:=aZ c;have d:(128-i).toNat=0:=d;refine⟨[false],none,_,afB h b X M mem p a j i,?_⟩
  repeat'(refine ax ?_ ?_)
  all_goals first|exact aV|rfl|(simp only[cz]<;>omega)
def Ld:cP:=nZ.T.told
def afF:Told 32 2 Ld:=afE.run
def sC:FuncId→Nat→Option cP|32,11=>some Lb|32,18=>some Ld|_,_=>none
def afG:(cH Tryz.prog 32).length=3:=by kernel_rfl
def afH(spec:FuncId→Option aA.Spec):c6 (de spec sC) bB:=by
 refine c6.of fun f=>?_;by_cases c:f=32
 ·subst c;refine .inr ⟨by kernel_rfl,fun i hi d a=>?_⟩;have hi:i<(cH Tryz.prog 32).length:=hi;rw[afG]at hi;have e:i=0∨i=1∨i=2:=by omega
  rcases e with rfl|rfl|rfl
  ·have b:(bX (bg Tryz.prog 32 0)).bind (sC 32)=none:=by kernel_rfl
   have a:(bX (bg Tryz.prog 32 0)).bind (sC 32)=some d:=a;rw[b]at a;cases a
  ·have b:(bX (bg Tryz.prog 32 1)).bind (sC 32)=some Lb:=by kernel_rfl
   obtain rfl:=dV (b.symm.trans a);exact afy
  ·have b:(bX (bg Tryz.prog 32 2)).bind (sC 32)=some Ld:=by kernel_rfl
   obtain rfl:=dV (b.symm.trans a);exact afF
 ·refine .inl fun r=>?_
  show sC f r=none;unfold sC;split
  ·exact absurd rfl c
  ·exact absurd rfl c
  ·rfl
end
section
open Go.aA
variable [aR][aF][bq]
variable{mem p lane:BitVec 32}
def AN(h:U 8)(a:Nat)(b:BitVec 32):U 8:=(((h.set (a+0) (b.setWidth 8)).set (a+1) ((b>>>8).setWidth 8)).set (a+2) ((b>>>16).setWidth 8)).set (a+3) ((b>>>24).setWidth 8)
def cC(h:U 8)(lane:BitVec 32):U 8:=AN (AN h 68 lane) 64 0#32
def cQ(h:U 8):U 8:=AN h 64 1#32
def wv(h b:U 8)(lane:BitVec 32):U 8:=ga b (cC h lane) 0 1024 1024 0 72
def sD(h b:U 8)(lane:BitVec 32):U 8:=ga (wv h b lane) (cQ (cC h lane)) 0 1024 1024 0 72
def sE(mem p lane:BitVec 32):BitVec 32:=lane*(mem/p)
def SD(h b:U 8)(X:U 64)(M:Nat)(mem p lane:BitVec 32):tZ:=iter qW ((128-(0:Int)).toNat) ⟨cC h lane,wv h b lane,X,M,mem,p,lane,sE mem p lane,0⟩
def De(h b:U 8)(X:U 64)(M:Nat)(mem p lane:BitVec 32):wu:=iter qX ((128-(0:Int)).toNat) ⟨cQ (cC h lane),sD h b lane,(SD h b X M mem p lane).X,M,mem,p,lane,sE mem p lane,0⟩
def afI(c:lane.toNat<p.toNat)(h2:2*p.toNat≤mem.toNat):(lane*(mem/p)).toNat=lane.toNat*(mem.toNat/p.toNat)∧lane.toNat*(mem.toNat/p.toNat)+mem.toNat/p.toNat≤mem.toNat∧2≤mem.toNat/p.toNat:=by
 have a:0<p.toNat:=by omega
 have b:2≤mem.toNat/p.toNat:=(Bx a).2 h2;have h3:p.toNat*(mem.toNat/p.toNat)≤mem.toNat:=Nat.mul_div_le ..;have h4:(lane.toNat+1)*(mem.toNat/p.toNat)≤p.toNat*(mem.toNat/p.toNat):=fQ _ (by omega);rw[jR]at h4;have d:=mem.isLt;refine⟨?_,by omega,b⟩;rw[iG,rI];exact dM (by omega)
def afJ(b:lane.toNat<p.toNat)(h2:2*p.toNat≤mem.toNat):(lane*(mem/p)+1#32).toNat<mem.toNat∧(lane*(mem/p)+0#32).toNat<mem.toNat:=by
 obtain⟨h3,h4,c⟩:=afI b h2;have d:=mem.isLt;constructor
 ·rw[eD,h3];have a:(1#32).toNat=1:=rfl;rw[a,dM (by omega)];omega
 ·rw[eD,h3];have a:(0#32).toNat=0:=rfl;rw[a,dM (by omega)];omega
def SE:∀r (d:tZ),(iter qW r d).X.n=d.X.n
 |0,d=>rfl|r+1,d=>by
  obtain⟨h,b,X,M,mem,p,lane,j,i⟩:=d;exact(SE r (qW ⟨h,b,X,M,mem,p,lane,j,i⟩)).trans rfl
def SF:∀r (d:wu),(iter qX r d).X.n=d.X.n
 |0,d=>rfl|r+1,d=>by
  obtain⟨h,b,X,M,mem,p,lane,j,i⟩:=d;exact(SF r (qX ⟨h,b,X,M,mem,p,lane,j,i⟩)).trans rfl
def afK(r q:Nat)(d:tZ)(g:tZ→wu)(b:∀a,(g a).X.n=a.X.n):(iter qX r (g (iter qW q d))).X.n=d.X.n:=by rw[SF,b,SE]
def SG(h b:U 8)(X:U 64)(M:Nat)(mem p lane:BitVec 32):(De h b X M mem p lane).X.n=X.n:=
 afK (128-(0:Int)).toNat (128-(0:Int)).toNat ⟨cC h lane,wv h b lane,X,M,mem,p,lane,sE mem p lane,0⟩ (fun a=>⟨cQ (cC h lane),sD h b lane,a.X,M,mem,p,lane,sE mem p lane,0⟩) (fun _=>rfl)
def afL(h:U 8)(lane:BitVec 32):(cQ (cC h lane)).n=h.n:=by kernel_rfl
def SH(h b:U 8)(lane:BitVec 32):(sD h b lane).n=b.n:=by kernel_rfl
structure ww where
 (h b:U 8)(X:U 64)(M:Nat)(mem p lane:BitVec 32)
def afM(d:ww):aI×List ah:=
 match d with
 |⟨h,b,X,M,mem,p,lane⟩=>(⟨[.P 0,.num (.aD mem),.num (.aD p),.aa,.aa,.aa,.atom .cI,.P 1,.ref (.sm 2 (.s M) 128),.num (.aD lane),.aa,.aa,.aa],[]⟩,[⟨.ag h,.own⟩,⟨.ag b,.own⟩,⟨.bt X,.own⟩])
def mY(d:ww):ww:=
 match d with
 |⟨h,b,X,M,mem,p,lane⟩=>⟨cQ (cC h lane),sD h b lane,(De h b X M mem p lane).X,M,mem,p,lane+1#32⟩
def Le(a:aI)(d:List ah):Option ww:=
 match a with
 |⟨[.ref (.ptr 0 (.c 0)),.num (.aD mem),.num (.aD p),.atom .aa,.atom .aa,.atom .aa,.atom .cI,.ref (.ptr 1 (.c 0)),.ref (.sm 2 (.s M) 128),.num (.aD lane),.atom .aa,.atom .aa,.atom .aa],[]⟩=>
  match d with
  |[⟨.ag h,.own⟩,⟨.ag b,.own⟩,⟨.bt X,.own⟩]=>some ⟨h,b,X,M,mem,p,lane⟩|_=>none
 |_=>none
def kl:eN ww where
 d0:=⟨0,0,0,0,0,0,0⟩
 read:=Le
 ay:=afM
 next:=mY
 rem:=fun⟨_,_,_,_,_,p,lane⟩=>p.toNat-lane.toNat
 aS:=fun⟨h,b,X,M,mem,p,lane⟩=>decide (lane.toNat≤p.toNat∧h.n=72∧b.n=1024∧X.n=M*128∧M=mem.toNat∧2*p.toNat≤mem.toNat)
 out:=.exit 0
def afN(h b:U 8)(X:U 64)(M:Nat)(mem p lane:BitVec 32):kl.cB ⟨h,b,X,M,mem,p,lane⟩ (b6 3) (kl.ay (mY ⟨h,b,X,M,mem,p,lane⟩)) (bZ nX sC 32 0) [true] .normal [decide (((0:Int)≤0∧((0:Int)≤128∧(b.n=1024∧(X.n=(M*128)∧(((lane*(mem/p))+(1#32))).toNat<M))))),decide (((1:Nat)≤((((1024:Int)):Int).toNat-(((0:Int)):Int).toNat)∧(((((1024:Int)):Int).toNat-(((0:Int)):Int).toNat)≤(1024-(((0:Int)):Int).toNat)∧(((0+((((0:Int)):Int).toNat*1))+(1024-(((0:Int)):Int).toNat))≤b.n∧((1024-(((0:Int)):Int).toNat)≤1099511627776∧(((0+((((0:Int)):Int).toNat*1))+((((72:Int)):Int).toNat-(((0:Int)):Int).toNat))≤h.n∧((((72:Int)):Int).toNat-(((0:Int)):Int).toNat)≤1099511627776)))))),decide (72≤h.n),decide (1024≤b.n),decide (67<h.n),decide (66<h.n),decide (65<h.n),decide (64<h.n),decide (67<h.n),decide (72≤h.n),decide (((0:Int)≤0∧((0:Int)≤128∧(b.n=1024∧(X.n=(M*128)∧(((lane*(mem/p))+(0#32))).toNat<M))))),decide (((1:Nat)≤((((1024:Int)):Int).toNat-(((0:Int)):Int).toNat)∧(((((1024:Int)):Int).toNat-(((0:Int)):Int).toNat)≤(1024-(((0:Int)):Int).toNat)∧(((0+((((0:Int)):Int).toNat*1))+(1024-(((0:Int)):Int).toNat))≤b.n∧((1024-(((0:Int)):Int).toNat)≤1099511627776∧(((0+((((0:Int)):Int).toNat*1))+((((72:Int)):Int).toNat-(((0:Int)):Int).toNat))≤h.n∧((((72:Int)):Int).toNat-(((0:Int)):Int).toNat)≤1099511627776)))))),decide (72≤h.n),decide (1024≤b.n),decide (67<h.n),decide (66<h.n),decide (65<h.n),decide (64<h.n),decide (67<h.n),decide (72≤h.n),decide (71<h.n),decide (70<h.n),decide (69<h.n),decide (68<h.n),decide (71<h.n),decide (72≤h.n),(p !=(0#32)),(decide (lane.toNat<p.toNat)==true)]:=by show _=_;kernel_rfl
def afO(h b:U 8)(X:U 64)(M:Nat)(mem p lane:BitVec 32):kl.cB ⟨h,b,X,M,mem,p,lane⟩ none (kl.fin ⟨h,b,X,M,mem,p,lane⟩) (bZ nX sC 32 0) [false] kl.out [(decide (lane.toNat<p.toNat)==false)]:=by show _=_;kernel_rfl
def afP:kl.Rd:=by
 intro a b d h;change Le a b=some d at h;unfold Le at h;repeat' split at h
 all_goals cases h
 rfl
def afQ:dc Tryz.prog bB (aj 32) (bN Tryz.prog 32) (bg Tryz.prog 32 0) (bZ nX sC 32 0):=iw Dd (afH _) 32 0 Aq (by rw[show(cH Tryz.prog 32).length=3 by kernel_rfl];omega)
def afR:eH Tryz.prog bB (aj 32) (bN Tryz.prog 32) (bg Tryz.prog 32 0) kl.T.told:=by
 refine kl.j0 afQ (by intro k e;have e:k∈([]:List ah):=e;cases e) (by intro h;cases h) afP ?_ ?_
 ·rintro⟨h,b,X,M,mem,p,lane⟩ f c a;have c:=aZ c;have a:p.toNat-lane.toNat=f+1:=a;have g:kl.next ⟨h,b,X,M,mem,p,lane⟩=mY ⟨h,b,X,M,mem,p,lane⟩:=rfl;rw[g];refine⟨⟨[true],(b6 3),_,afN h b X M mem p lane,?_⟩,?_,?_,(show(kl.ay (mY ⟨h,b,X,M,mem,p,lane⟩)).2.length=3 by kernel_rfl).trans (show(kl.ay ⟨h,b,X,M,mem,p,lane⟩).2.length=3 by kernel_rfl).symm⟩
  ·have ⟨l,m⟩:=afJ (mem:=mem) (p:=p) (lane:=lane) (by omega) (by omega);have i:p≠0#32:=fun d=>by rw[d]at a;simp at a
   repeat'(refine ax ?_ ?_)
   all_goals first|exact aV|rfl|(simp only[cz]<;>first|omega|exact i)
  ·have d:kl.aS (mY ⟨h,b,X,M,mem,p,lane⟩)=decide ((lane+1#32:BitVec 32).toNat≤p.toNat∧(cQ (cC h lane):U 8).n=72∧(sD h b lane:U 8).n=1024∧((De h b X M mem p lane).X:U 64).n=M*128∧M=mem.toNat∧2*p.toNat≤mem.toNat):=by kernel_rfl
   refine d.trans (bl ?_);have o:(cQ (cC h lane)).n=h.n:=afL h lane;have q:(sD h b lane).n=b.n:=SH h b lane;have r:=SG h b X M mem p lane;have j:(lane+1#32).toNat=lane.toNat+1:=by rw[eD];simp;have:=p.isLt;omega
   omega
  ·have d:kl.rem (mY ⟨h,b,X,M,mem,p,lane⟩)=(p.toNat-(lane+1#32:BitVec 32).toNat):=by kernel_rfl
   refine d.trans ?_;have j:(lane+1#32).toNat=lane.toNat+1:=by rw[eD];simp;have:=p.isLt;omega
   omega
 ·rintro⟨h,b,X,M,mem,p,lane⟩ c a;have c:=aZ c;have a:p.toNat-lane.toNat=0:=a;refine⟨[false],none,_,afO h b X M mem p lane,?_⟩
  repeat'(refine ax ?_ ?_)
  all_goals first|exact aV|rfl|(simp only[cz]<;>omega)
def Lf:cP:=kl.T.told
def afS:Told 32 0 Lf:=afR.run
end
end Go.Proofs.YtcminalaicidiaaGreatDoor
namespace Go.aA
section
variable [aR][aF]
variable{G:Nat→Option (List af)}{β β':aE}{w w':World}{H fI:List ah}
structure ym(β:aE)(H:List ah)(w:World)(β':aE)(fI:List ah)(w':World):Prop where
 size:w.heap.size≤w'.heap.size
 kept:∀c,c<w.heap.size→¬Own β H c→bL c w w'
 own:∀c,c<w.heap.size→Own β' fI c→Own β H c
def ym.of{β':aE}{fI:List ah}{w':World}(h:bM β H w β' fI w'):ym β H w β' fI w':=⟨h.size,h.kept,h.own⟩
def ym.less{β':aE}{fI:List ah}{w':World}{a:aE}{b:List ah}(h:ym β H w β' fI w')(k:∀c,Own a b c→Own β' fI c):ym β H w a b w':=⟨h.size,h.kept,fun c d e=>h.own c d (k c e)⟩
def aL.swap{a:Nat}{d d':Data}{m:Mode}(l:aL G β H w)(n:H[a]? =some ⟨d,m⟩)(v:m.alive)(q:β a=none→d'.len=0)(x:∀f,β a=some f→g8 β ⟨d,m⟩ f w→g8 β ⟨d',m⟩ f w):
 aL G β (H.set a ⟨d',m⟩) w∧∀c,Own β (H.set a ⟨d',m⟩) c↔Own β H c:=by
 have r:a<H.length:=(dX.1 n).1;have o:∀(b:Nat) k,(H.set a ⟨d',m⟩)[b]? =some k→∃h,H[b]? =some h∧h.mode=k.mode:=by
  intro b k e;by_cases i:a=b
  ·subst i;rw[pL r]at e;injection e with e;subst e;exact⟨_,n,rfl⟩
  ·rw[mw i]at e;exact⟨k,e,rfl⟩
 refine⟨⟨fun b k e s=>?_,fun b t k y f z q e A j s g B=>?_,fun b f g=>by rw[lN];exact l.fW b f g,l.dB,fun b k f e j g=>?_⟩,fun c=>⟨?_,?_⟩⟩
 ·by_cases i:a=b
  ·subst i;rw[pL r]at e;injection e with e;subst e;rcases l.blk a _ n v with⟨f,g,C⟩|⟨I,u⟩
   ·exact .inl ⟨f,g,x f g C⟩
   ·exact .inr ⟨q u,u⟩
  ·rw[mw i]at e;exact l.blk b k e s
 ·obtain⟨h,h1,h2⟩:=o b k e;obtain⟨D,E,F⟩:=o t y A;exact l.dO b t h D f z q h1 E (h2.trans j) (by unfold Mode.alive;rw[F];exact s) g B
 ·obtain⟨h,h1,h2⟩:=o b k e;exact l.apart b h f h1 (h2.trans j) g
 ·rintro⟨b,k,f,e,j,g,p⟩;obtain⟨h,h1,h2⟩:=o b k e;exact⟨b,h,f,h1,h2.trans j,g,p⟩
 ·rintro⟨b,k,f,e,j,g,p⟩;by_cases i:a=b
  ·subst i;rw[n]at e;injection e with e;subst e;exact⟨a,_,f,pL r,j,g,p⟩
  ·exact⟨b,k,f,by rw[mw i];exact e,j,g,p⟩
end
section
variable [aR][aF]
variable{P:Program}{G:Nat→Option (List af)}{aj bC:Nat}
variable{f:FuncId}{C:eK}{β:aE}{w:World}{call:gf}
def gL.step{n0 dI:Nat}{g β i:aE}{j l m:List ah}{n w w':World}(h:gL n0 g j n β l w)(k:gL dI β l w i m w')(d:n0≤dI):gL n0 g j n i m w' where
 le:=aE.le_trans h.le k.le
 len:=gb d k.len
 os:=k.os.trans h.os
 tape:=k.tape.trans h.tape
 output:=k.output.trans h.output
 size:=gb h.size k.size
 kept c a d:=(h.kept c a d).trans (k.kept c (dL a h.size) (fun e=>d (h.own c a e)))
 own c a e:=h.own c a (k.own c (dL a h.size) e)
 old b o:=(k.old b (dL o d)).trans (h.old b o)
def Lg [oU]{n0 dI:Nat}{h d:aE}{i j e:List ah}{k g:World}{l:Option (List Nat)}{p:aI×List ah}{m:aI}{n:Act}
 (r:gL n0 h i k β j w) (s:∀b t,h b=some t→b<n0) (E:n0≤dI) (u:dI≤e.length)
 (v:gq l p.1 m=some p.1) (x:lZ dI [] l p.2 e=some p.2) (y:cL aj bC d m n) (z:aL G d e g) (A:bM β j w d e g):
 ∃a,cL aj bC a p.1 n∧aL G a p.2 g∧gL n0 h i k a p.2 g∧(∀c,Own a p.2 c→Own d e c)∧(∀b,b<dI→a b=d b):=by
 obtain⟨a,B,o,F,q,D⟩:=xV (n0:=dI) (cG:=[]) (by simp) x u z;exact⟨a,xW D v y,B,(r.trans A).wk s (fun b H=>o b (by omega)) (by omega) q,q,o⟩
def dc.step [oU]{c:Code}{f:aI→ai→Option (dJ×aI×ai)}(g:dc P G aj bC c f){n0 dI:Nat}{p:aI×List ah}{j:aI}{d:List ah}{q cs:List Bool}{r:Option (List Nat)}{k:dJ}
 (s:eg dI r p (f j ⟨d,bJ,q,[]⟩)=some (k,p,cs)) (t:∀x∈cs,x=true) (u:n0≤dI) (aa:dI≤d.length)
 {h β:aE} {l:List ah} {m w:World} {a:Act} (v:∀b y,h b=some y→b<n0) (z:cL aj bC β j a) (A:aL G β d w) (B:gL n0 h l m β d w) {n:Exit→Act→World→Prop}
 (D:∀o w' e,cL aj bC e p.1 o→aL G e p.2 w'→gL n0 h l m e p.2 w'→ym β d w e p.2 w'→(∀b,b<dI→e b=β b)→n k.ex o w'):c.ef P n a w:=by
 obtain⟨ab,E,F,I,J,K⟩:=tN s;obtain⟨L,M⟩:=g _ _ _ _ _ F;refine M (fun x N=>t x (by rw[←K];exact N)) β a w z A _ fun O Q ad R S i=>?_;have T:dI≤E.H.length:=by have:=L.len;simp only at *;omega
 obtain⟨U,V,W,X,Y,Z⟩:=Lg B v u T I J R S i;exact D O Q U V W X ((ym.of i).less Y) (fun b g=>(Z b g).trans (i.old b (show b<d.length by omega)))
def sub:List Bool→Code→Code
 |[],c=>c|d::p,c=>
  match c with
  |.seq a b=>
   match d with
   |false=>sub p a|true=>sub p b
  |.block _ b=>sub p b|.loop b=>sub p b|_=>.skip
def Df:∀(p:List Bool) (c:Code),(∀(dyn:Nat→Bool) (n:Nat),codeOk P bC dyn n c=true→∃m,codeOk P bC dyn m (sub p c)=true)∧∀k,∀b∈cT k (sub p c),∃a,b∈cT a c
 |[],c=>⟨fun dyn n h=>⟨n,h⟩,fun k b h=>⟨k,h⟩⟩|j::p,c=>by
  have l:(∀(dyn:Nat→Bool) (n:Nat),codeOk P bC dyn n c=true→∃m,codeOk P bC dyn m (.skip:Code)=true)∧∀k,∀b∈cT k (.skip:Code),∃a,b∈cT a c:=
   ⟨fun _ _ _=>⟨1,rfl⟩,fun k b h=>by cases k<;>simp[cT]at h⟩
  cases c with
  |seq g o=>
   cases j with
   |false=>
    obtain⟨h1,h2⟩:=Df p g;refine⟨fun dyn n h=>?_,fun k b d=>?_⟩
    ·cases n with
     |zero=>simp[codeOk]at h|succ n=>
      simp only[codeOk]at h;split at h
      ·rename_i q;exact h1 dyn n q
      ·cases h
    ·obtain⟨a,e⟩:=h2 k b d;exact⟨a+1,by simp[cT,e]⟩
   |true=>
    obtain⟨h1,h2⟩:=Df p o;refine⟨fun dyn n h=>?_,fun k b d=>?_⟩
    ·cases n with
     |zero=>simp[codeOk]at h|succ n=>
      simp only[codeOk]at h;split at h
      ·exact h1 dyn n h
      ·cases h
    ·obtain⟨a,e⟩:=h2 k b d;exact⟨a+1,by simp[cT,e]⟩
  |block i g=>
   obtain⟨h1,h2⟩:=Df p g;refine⟨fun dyn n h=>?_,fun k b d=>?_⟩
   ·cases n with|zero=>simp[codeOk]at h|succ n=>exact h1 dyn n (by simpa only[codeOk]using h)
   ·obtain⟨a,e⟩:=h2 k b d;exact⟨a+1,by simp[cT,e]⟩
  |loop g=>
   obtain⟨h1,h2⟩:=Df p g;refine⟨fun dyn n h=>?_,fun k b d=>?_⟩
   ·cases n with|zero=>simp[codeOk]at h|succ n=>exact h1 dyn n (by simpa only[codeOk]using h)
   ·obtain⟨a,e⟩:=h2 k b d;exact⟨a+1,by simp[cT,e]⟩
  |_=>exact l
def afT [lY C](h:C.dB=G)(i:fX C.P G call)(j:oV C.P C.gv)(l:C.P.follows .mixedOrders=true)(n:c6 C G)(a:qM C f=true)(d:Nat)(p:List Bool):
 dc C.P G (C.aj f) (bN C.P f) (sub p (cR C.P f)) (exec C d (sub p (cR C.P f)) ⟨call,C.aj f,C.eF f,C.dyn f,C.loop f⟩):=by
 unfold qM at a;unfold bN cR;split at a
 ·cases a
 rename_i fn e;split at a
 ·cases a
 rename_i c g;split at a
 ·cases a
 simp only[e,g];obtain⟨h1,h2⟩:=Df (P:=C.P) (bC:=fn.ntmps) p c;obtain⟨m,o⟩:=h1 _ _ a;exact F0 (C:=C) (G:=G) (bC:=fn.ntmps) h (E:=⟨call,C.aj f,C.eF f,C.dyn f,C.loop f⟩) i j l d m _ o (fun k b q r s=>by
  obtain⟨t,u⟩:=h2 k b q;exact n f fn c e g t b u r s)
def afU [oU][lY C](e:C.dB=G)(g:fX C.P G call)(h:oV C.P C.gv)(j:C.P.follows .mixedOrders=true)(l:∀i,C.loop f i=none)(c:Nat)(p:List Bool){m:Nat}(n:codeOk C.P (bN C.P f) (C.dyn f) m (sub p (cR C.P f))=true):
 dc C.P G (C.aj f) (bN C.P f) (sub p (cR C.P f)) (exec C c (sub p (cR C.P f)) ⟨call,C.aj f,C.eF f,C.dyn f,C.loop f⟩):=
 F0 (C:=C) (G:=G) (bC:=bN C.P f) e (E:=⟨call,C.aj f,C.eF f,C.dyn f,C.loop f⟩) g h j c m _ n (fun k b q o a=>by
  cases d:bX b with
  |none=>rw[d]at a;cases a
  |some i=>
   rw[d,Option.bind_some]at a;have a:C.loop f i=some o:=a;rw[l i]at a;cases a)
def SI(P:Program)(f:FuncId):Bool:=
 match P.funcs[f]? with
 |some fn=>
  match fn.body with
  |some _=> !(fn.name== "runtime.NumGoroutine")|none=>false
 |none=>false
def Lh(P:Program)(f:FuncId):List ResultVar:=
 match P.funcs[f]? with
 |some fn=>fn.results.toList|none=>[]
def SJ [lY C](B:C.dB=G)(D:aF.plain f)(b:SI C.P f=true){args:List af}{us:List Value}(n:aJ β args us)(v:args.length≤bN C.P f)
 {x:Ending→World→Prop}
 (h:∀a,cL (C.aj f) (bN C.P f) β ⟨args++List.replicate (C.aj f-args.length) .aa,[]⟩ a→(cR C.P f).ef C.P (fun k l w'=>k=.ret∧∃o p q vs g,xq C (C.aj f) o p (Lh C.P f)=some (vs,q)∧q.ok∧cL (C.aj f) (bN C.P f) g o l∧aL G g p.H w'∧
  ∀u,aC g (zF vs) u→x (.returned u) w') a w):
 (∃fn,C.P.funcs[f]? =some fn∧(fn.name== "runtime.NumGoroutine")=false∧fn.body.isSome=true)∧jU C.P f ⟨us⟩ w x:=by
 unfold SI at b;split at b
 case h_2=>cases b
 rename_i fn i;split at b
 case h_2=>cases b
 rename_i c r;have E:cR C.P f=c:=by simp only[cR,i,r]
 have y:bN C.P f=fn.ntmps:=by simp only[bN,i]
 have F:Lh C.P f=fn.results.toList:=by simp only[Lh,i]
 rw[y]at v;simp only[E,y,F]at h;refine⟨⟨fn,i,by simpa using b,by simp[r]⟩,ON D i r ?_⟩;have T:us.length≤fn.ntmps:=by rw[←n.1];exact v
 refine B8 (h {tmps:=(⟨us⟩:Array Value)++Array.replicate (fn.ntmps-(⟨us⟩:Array Value).size) undef,defers:=[]} ⟨fun t=>?_,?_,rfl⟩) fun k l w' I=>?_
 ·simp only[aI.get];cases U:Nat.blt t (C.aj f)with
  |false=>exact .aa _|true=>
   simp only[cg];rcases cv t args.length with d|d
   ·have z:t<us.length:=by rw[←n.1];exact d
    rw[iE d,bW d];simp only;have k:((⟨us⟩:Array Value)++Array.replicate (fn.ntmps-(⟨us⟩:Array Value).size) undef).getD t undef=us[t]:=by
     simp[gV,Oe,z]
    rw[k];exact n.2 t _ _ (bW d) (bW z)
   ·rw[ie d];split
    ·rename_i V e;rw[mz]at e;split at e
     ·injection e with e;subst e;exact .aa _
     ·cases e
    ·exact .aa _
 ·simp;omega
 ·obtain⟨rfl,o,p,q,vs,g,J,K,A,L,M⟩:=I;obtain⟨W,N⟩:=QJ (bC:=fn.ntmps) B _ _ _ _ J;obtain⟨s,O,Q⟩:=N K g l w' A L;have R:∀j,er w' j→(results fn l.tmps).aG C.P j=.ok (if h:(⟨s⟩:Array Value).size=1 then(⟨s⟩:Array Value)[0]else .tuple ⟨s⟩) j:=by
   intro j S;rw[JO,Oi (m:=Sem)];simp[Q j S]
  exact⟨A.defers,_,R,M _ (QK O)⟩
def bT.wz{D:Type}(c:bT D)(y:∀a h d,c.read a h=some d→a=c.args d∧h=c.heap d)
 (z:∀d,c.aS d=true→∀β w vs,aJ β (c.args d) vs→aL G β (c.heap d) w→(∀b j,β b=some j→b<(c.heap d).length)→
  (∃fn,P.funcs[f]? =some fn∧(fn.name== "runtime.NumGoroutine")=false∧fn.body.isSome=true)∧
  jU P f ⟨vs⟩ w fun n w'=>∃u l,n=.returned u∧aC l (c.val d) u∧aL G l (c.out d) w'∧gL (c.heap d).length β (c.heap d) w l (c.out d) w'):dy P G f c.spec:=by
 intro args A W r e;unfold bT.spec at e;split at e
 ·cases e
 rename_i a B;split at e
 ·cases e
 rename_i h o;split at e
 ·cases e
 rename_i d E;split at e
 ·cases e
 rename_i X q;injection e with e;subst e;obtain⟨rfl,rfl⟩:=y a h d E;refine⟨fun i k F s=>?_,fun H β w vs I t=>?_⟩
 ·rcases(Am q).2.2.2 i k F with⟨_,h2,_⟩|⟨h1,_⟩
  ·exact absurd s h2
  ·exact⟨k,h1,s⟩
 ·obtain⟨m,J,Y⟩:=F4 (cG:=[]) (by simp) t (by rw[uJ];exact o);have K:aJ β (c.args d) vs:=by
   refine Q2 (β:=β) (rs:=none) (fun p Z aa v g L=>?_) B I;unfold jD at g;split at g
   ·injection g with g;subst g;exact .aa _
   ·exact xU L g
  have M:(c.heap d).length=A.length:=(vK _ _ _ o).2;obtain⟨N,O⟩:=z d (H _ (tc.2 rfl)) β w vs K m (fun b j Q=>m.fW b j Q);refine⟨N,O.mono ?_⟩;rintro n w' ⟨u,R,rfl,S,T,x⟩;rw[M]at x;obtain⟨U,V⟩:=F3 t m J T x q;exact⟨u,R,rfl,S,U,V⟩
end
end Go.aA
namespace Go.Proofs.YtcminalaicidiaaGreatDoor
section
open Go.aA Go.Conc
variable [aR][aF][bq]
variable{spec:FuncId→Option aA.Spec}{P:FuncId→Nat→Option cP}
def qa(spec:FuncId→Option aA.Spec)(P:FuncId→Nat→Option cP)(f:Nat)(p:List Bool)(a:aI)(S:ai):Option (dJ×aI×ai):=exec (de spec P) 100000 (sub p (cR Tryz.prog f)) ⟨uY (de spec P) 20 100000,aj f,eF f,dyn f,P f⟩ a S
def Li(c:∀f a,spec f=some a→br f a)(b:c6 (de spec P) bB)(f:Nat)(p:List Bool)(d:aW f):
 dc Tryz.prog bB (aj f) (bN Tryz.prog f) (sub p (cR Tryz.prog f)) (qa spec P f p):=
 afT (C:=de spec P) rfl (F1 (C:=de spec P) rfl vL mixed (C3 spec P) bq.plain b (fun f a h args S v e g=>CU (c f a h) args S v e g) 100000 20) vL mixed b ((J2 spec P f).trans d) 100000 p
def hO(spec:FuncId→Option aA.Spec)(P:FuncId→Nat→Option cP)(f:Nat):List (List Bool)→aI→ai→Option (dJ×aI×ai)
 |[],a,S=>some (.normal,a,S)|p::b,a,S=>
  match qa spec P f p a S with
  |some (c,a,S)=>
   match c with
   |.normal=>hO spec P f b a S|_=>none
  |none=>none
def n3(c:Code):List (List Bool)→Code→Code|[],t=>t|p::a,t=>.seq (sub p c) (n3 c a t)
def Lj{spec:FuncId→Option aA.Spec}{P:FuncId→Nat→Option cP}(u:∀f v,spec f=some v→br f v)(x:c6 (de spec P) bB)(f:Nat)(y:aW f)(t:Code):∀(g:List (List Bool)) j S n l c,hO spec P f g j S=some (n,l,c)→
 aA.Ext S c∧(c.ok→∀β a w,cL (aj f) (bN Tryz.prog f) β j a→aL bB β S.H w→∀(b:Frame) (k:List Item) (cs:List Frame) (d:Goroutine→World→Prop),xw b→
  (∀e w' i,cL (aj f) (bN Tryz.prog f) i l e→aL bB i c.H w'→bM β S.H w i c.H w'→dr Tryz.prog d (G (b.at e (.code t::k)) cs) w')→
  dr Tryz.prog d (G (b.at a (.code (n3 (cR Tryz.prog f) g t)::k)) cs) w)
 |[],j,S,n,l,c,h=>by
  simp only[hO,aB,aN]at h;obtain⟨rfl,rfl,rfl⟩:=h;exact⟨aA.Ext.refl _,fun ok β a w o r b k cs d m s=>s a w β o r (bM.refl ..)⟩
 |p::g,j,S,n,l,c,h=>by
  simp only[hO]at h;split at h
  case h_2=>cases h
  rename_i Q R T h1;split at h
  case h_2=>cases h
  obtain⟨B,C⟩:=Li u x f p y _ _ _ _ _ h1;obtain⟨z,D⟩:=Lj u x f y t g _ _ _ _ _ h;refine⟨B.trans z,fun ok β a w o r b k cs d m s=>?_⟩;refine dr.ctl rfl m.2 (fun U=>stepG_seq) ?_;refine C (z.ok ok) β a w o r (fun A e w'=>A=.normal∧dr Tryz.prog d (G (b.at e (.code (n3 (cR Tryz.prog f) g t)::k)) cs) w') (fun e w' i E F I=>⟨rfl,?_⟩) b (.code (n3 (cR Tryz.prog f) g t)::k) cs d m (fun A e w' q=>?_)
  ·exact D ok i e w' E F b k cs d m fun J K L M N O=>s J K L M N (I.trans O)
  ·obtain⟨rfl,q⟩:=q;exact q
def Gw(s:∀f l,spec f=some l→br f l)(u:c6 (de spec P) bB){f:Nat}(v:aW f)(t:Code){e:List (List Bool)}
 {p:aI×List ah} {m:aI} {H:List ah} {x cs:List Bool} {y:Option (List Nat)} {z:dJ} (A:eg H.length y p (hO spec P f e m ⟨H,bJ,x,[]⟩)=some (z,p,cs)) (B:∀g∈cs,g=true)
 {β:aE} {w:World} {a:Act} (C:cL (aj f) (bN Tryz.prog f) β m a) (n:aL bB β H w) (b:Frame) (k:List Item) (i:List Frame) (j:Goroutine→World→Prop) (c:xw b)
 (D:∀o w' d,cL (aj f) (bN Tryz.prog f) d p.1 o→aL bB d p.2 w'→gL H.length β H w d p.2 w'→(∀b,b<H.length→d b=β b)→dr Tryz.prog j (G (b.at o (.code t::k)) i) w'):
 dr Tryz.prog j (G (b.at a (.code (n3 (cR Tryz.prog f) e t)::k)) i) w:=by
 obtain⟨aa,E,F,I,J,K⟩:=tN A;obtain⟨L,M⟩:=Lj s u f v t e _ _ _ _ _ F;refine M (fun g N=>B g (by rw[←K];exact N)) β a w C n b k i j c fun O Q ab R S r=>?_;have T:H.length≤E.H.length:=L.len;obtain⟨U,V,W,X,ad,Y⟩:=Lg (n0:=H.length) ((bM.refl β H w).q (aX _)) (fun b Z h=>n.fW b Z h) (aX _) T I J R S r;exact D O Q U V W X (fun b c=>(Y b c).trans (r.old b c))
end
section
open Go.aA
variable [aR][aF][bq]
def qY:FuncId→Nat→Option cP|32,4=>some Lf|_,_=>none
def SK(spec:FuncId→Option aA.Spec):c6 (de spec qY) bB:=by
 have e:(cH Tryz.prog 32).length=3:=by kernel_rfl
 refine c6.of fun f=>?_;by_cases c:f=32
 ·subst c;refine .inr ⟨by kernel_rfl,fun i hi d a=>?_⟩;have hi:i<(cH Tryz.prog 32).length:=hi;rw[e]at hi;have g:i=0∨i=1∨i=2:=by omega
  rcases g with rfl|rfl|rfl
  ·have b:(bX (bg Tryz.prog 32 0)).bind (qY 32)=some Lf:=by kernel_rfl
   obtain rfl:=dV (b.symm.trans a);exact afS
  ·have b:(bX (bg Tryz.prog 32 1)).bind (qY 32)=none:=by kernel_rfl
   have a:(bX (bg Tryz.prog 32 1)).bind (qY 32)=some d:=a;rw[b]at a;cases a
  ·have b:(bX (bg Tryz.prog 32 2)).bind (qY 32)=none:=by kernel_rfl
   have a:(bX (bg Tryz.prog 32 2)).bind (qY 32)=some d:=a;rw[b]at a;cases a
 ·refine .inl fun r=>?_
  show qY f r=none;unfold qY;split
  ·exact absurd rfl c
  ·rfl
def yo:U 8:=U.of (List.replicate 1024 0#8)
def yp:List af:=List.replicate 1024 (.int .u8 (.c 0))
def SL(mem p:BitVec 32):aI:=⟨[.ref (.ptr 0 (.c 0)),.num (.aD mem),.num (.aD p),.aa,.aa,.aa,.aa,.aa,.aa,.aa,.aa,.aa,.aa],[]⟩
def Ll(mem p:BitVec 32):aI:=⟨[.ref (.ptr 0 (.c 0)),.num (.aD mem),.num (.aD p),.aa,.aa,.aa,.cI,.ref (.ptr 1 (.c 0)),.aa,.aa,.aa,.aa,.aa],[]⟩
def SM(M:Nat)(mem p:BitVec 32):aI:=⟨[.ref (.ptr 0 (.c 0)),.num (.aD mem),.num (.aD p),.aa,.aa,.aa,.cI,.ref (.ptr 1 (.c 0)),.ref (.sm 2 (.s M) 128),.aa,.aa,.aa,.aa],[(14,.ref (.sm 2 (.s M) 128)),(13,.num (.aD mem))]⟩
def SN(M:Nat):aI:=⟨[.aa,.aa,.aa,.aa,.aa,.aa,.ref (.sm 1 (.s M) 128),.aa,.aa,.aa,.aa,.aa,.aa],[]⟩
def ua(h:U 8)(X:U 64)(M:Nat)(mem p:BitVec 32):ww:=iter mY (p.toNat-(0#32).toNat) ⟨h,yo,X,M,mem,p,0#32⟩
def afV(h:U 8)(mem p:BitVec 32):jF 1 (b6 2) (Ll mem p,[⟨.ag h,.own⟩,⟨.gen yp,.own⟩]) (hO nX qY 32 [[false],[true,false]] (SL mem p) ⟨[⟨.ag h,.own⟩],bJ,[],[]⟩) .normal []:=by show _=_;kernel_rfl
def afW(h:U 8)(X:U 64)(M:Nat)(mem p:BitVec 32):jF 1 (some [0,2]) (SN (ua h X M mem p).M,[⟨.ag (ua h X M mem p).h,.own⟩,⟨.bt (ua h X M mem p).X,.own⟩]) (qa nX qY 32 (bE 3 7) (SM M mem p) ⟨[⟨.ag h,.own⟩,⟨.gen yp,.own⟩,⟨.bt X,.own⟩],bJ,[],[]⟩) .ret [decide (((0#32).toNat≤p.toNat∧(h.n=72∧((1024:Nat)=1024∧(X.n=(M*128)∧(M=mem.toNat∧(2*p.toNat)≤mem.toNat))))))]:=by show _=_;kernel_rfl
end
section
open Go Go.aA
def yq:Array Oper:=match sub (bE 3 3) (cR Tryz.prog 32)with|.region _ a _=>a|_=>#[]
def afX:cR Tryz.prog 32=n3 (cR Tryz.prog 32) [[false],[true,false]] (.seq (.region 2 yq false) (sub (bE 3 7) (cR Tryz.prog 32))):=by kernel_rfl
def qb(i:Nat):Oper:=yq.getD i {dst:=none,op:=.move (.tmp 0),type:=0,pos:= "",after:=#[],guard:=none}
def Gx:List.range yq.size=[0,1,2]∧yq[0]? =some (qb 0)∧yq[1]? =some (qb 1)∧yq[2]? =some (qb 2):=⟨by kernel_rfl,by kernel_rfl,by kernel_rfl,by kernel_rfl⟩
def Lm:(qb 0).dst=some 13∧(qb 1).dst=some 14∧(qb 2).dst=some 8:=⟨by kernel_rfl,by kernel_rfl,by kernel_rfl⟩
def Ln(a:Nat→Option Bool):Region.wanted (qb 0) a=true∧Region.wanted (qb 1) a=true∧Region.wanted (qb 2) a=true:=⟨by kernel_rfl,by kernel_rfl,by kernel_rfl⟩
def Lo:(qb 0).op=.move (.tmp 1)∧(qb 1).op=.makeSlice 68 (.tmp 13) (.tmp 13)∧(qb 2).op=.assign (.tmp 14):=⟨by kernel_rfl,by kernel_rfl,by kernel_rfl⟩
variable [aR][aF][bq]
def o8(M:Nat):U 64:=U.of (List.replicate (M*128) 0#64)
def Lp(M:Nat):(o8 M).n=M*128:=nh
def yt:TypeId:=match Tryz.prog.underlying 68 with|some (.slice a)=>a|_=>0
def Gy:(Tryz.prog.info? yt).isSome=true:=by kernel_rfl
def SO:(((Tryz.prog.info? yt).get Gy).zero).isSome=true:=by kernel_rfl
def afY:∃a i z,Tryz.prog.underlying 68=some (.slice a)∧Tryz.prog.info? a=some i∧i.zero=some z∧i.size=128∧i.bytes=1024∧z.cells=⟨List.replicate 128 (.int .u64 0)⟩:=
 ⟨yt,(Tryz.prog.info? yt).get Gy,((Tryz.prog.info? yt).get Gy).zero.get SO,by kernel_rfl,(Option.some_get Gy).symm,(Option.some_get SO).symm,by kernel_rfl,by kernel_rfl,by kernel_rfl⟩
def Jp(q n:Nat)(a:0<q)(v:Value):madeCells (⟨List.replicate q v⟩:Array Value) n=⟨List.replicate n v⟩:=by
 apply Array.ext
 ·rw[size_madeCells];simp
 ·intro i h1 h2;have b:i%q<q:=qu _ a;simp[madeCells,getElem!_def,b]
def afZ(n:Nat):madeCells (⟨List.replicate 128 (.int .u64 0)⟩:Array Value) n=⟨List.replicate n (.int .u64 0)⟩:=Jp 128 n (by decide) _
def af0(M:Nat)(d:M<4294967296):∃a,∀w:World,(Instr.makeSlice 68 (.int .u32 (M:Int)) (.int .u32 (M:Int))).aG Tryz.prog w=.ok (.slice (some (at' w.heap.size 0)) M M) (w.alloc (.cells ⟨List.replicate (M*128) (.int .u64 0)⟩ a)):=by
 obtain⟨a,i,z,h1,h2,h3,h4,b,c⟩:=afY;refine⟨a,fun w=>?_⟩;have:=Jo Tryz.prog w 68 a i z h1 h2 h3 .u32 .u32 (M:Int) (M:Int) (by omega) (rN _) (by rw[b];omega) (by omega);rw[h4,c,afZ]at this;simpa[at']using this
def af1{β:aE}(M:Nat):aJ β (aA.Data.bt (o8 M)).list (List.replicate (M*128) (.int .u64 0)):=by
 have c:(aA.Data.bt (o8 M)).list.length=M*128:=by rw[Data.jB];exact nh
 refine⟨by rw[c,nh],fun i d v e b=>?_⟩;have a:((List.replicate (M*128) 0#64).map af.au)[i]? =some d:=e;rw[aol,mz]at a;rw[mz]at b;split at a
 ·rename_i hi;rw[av hi]at b;injection a with a;injection b with b;subst a b;exact .num (.au 0#64)
 ·cases a
def af2{β:aE}{h:U 8}{mem p:BitVec 32}{a:Act}{w:World}(e:cL (aj 32) (bN Tryz.prog 32) β (Ll mem p) a)(v:aL bB β [⟨.ag h,.own⟩,⟨.gen yp,.own⟩] w){j:Exit→Act→World→Prop}
 (x:∀k w' f,cL (aj 32) (bN Tryz.prog 32) f (SM mem.toNat mem p) k→aL bB f [⟨.ag h,.own⟩,⟨.gen yp,.own⟩,⟨.bt (o8 mem.toNat),.own⟩] w'→bM β [⟨.ag h,.own⟩,⟨.gen yp,.own⟩] w f [⟨.ag h,.own⟩,⟨.gen yp,.own⟩,⟨.bt (o8 mem.toNat),.own⟩] w'→j .normal k w'):
 (Code.region 2 yq false).ef Tryz.prog j a w:=by
 obtain⟨l,y⟩:=af0 mem.toNat mem.isLt;have z:bN Tryz.prog 32=82:=by kernel_rfl
 have m:a.tmps.size=82:=e.size.trans z;refine OK ?_;rw[Gx.1];simp only[lq,Gx.2.1,Gx.2.2.1,Gx.2.2.2,(Ln _).1,(Ln _).2.1,(Ln _).2.2,gT];intro A n;have h1:a.eval (.tmp 1)=.int .u32 (mem.toNat:Int):=(e.val 1).num_inv;refine⟨.value (.int .u32 (mem.toNat:Int)),A,by simp[execOp,Lo.1,h1],fun _=>⟨eV.refl _,?_⟩⟩;rw[Lm.1];have B:=e.put (d:=some 13) (fun o b=>by injection b with b;omega) (aC.num (β:=β) (.aD mem));have C:=v.rely n;intro c q;have D:(a.put (some 13) (.int .u32 (mem.toNat:Int))).eval (.tmp 13)=.int .u32 (mem.toNat:Int):=by simp[Act.put,Act.eval,gV,m]
 refine⟨.value (.slice (some (at' c.heap.size 0)) mem.toNat mem.toNat),c.alloc (.cells ⟨List.replicate (mem.toNat*128) (.int .u64 0)⟩ l),?_,fun E=>⟨vr _ _,?_⟩⟩
 ·simp only[execOp,Lo.2.1,D];rw[Sem.rV,y];rfl
 rw[Lm.2.1];have F:=C.rely q;have g:(List.replicate (mem.toNat*128) (Value.int .u64 0)).length=mem.toNat*128:=nh;have r:(aA.Data.bt (o8 mem.toNat)).len=mem.toNat*128:=nh;obtain⟨dI,i⟩:=F.new (.bt (o8 mem.toNat)) (List.replicate (mem.toNat*128) (.int .u64 0)) l (by rw[r,g];exact aX _) (by rw[r,qw (by rw[g];exact aX _)];exact af1 _) (xK E);have t:aC (β.put 2 ⟨c.heap.size,0,mem.toNat*128⟩) (.ref (.sm 2 (.s mem.toNat) 128)) (.slice (some (at' c.heap.size 0)) mem.toNat mem.toNat):=
  .sm 2 (.s mem.toNat) 128 _ mem.toNat (aX _) (.inr ⟨_,aE.fJ ..,rfl,aX _⟩)
 rw[g]at dI i;have H:=(B.mono i.le).put (d:=some 14) (fun o b=>by injection b with b;omega) t;intro I u;have J:((a.put (some 13) (.int .u32 (mem.toNat:Int))).put (some 14) (.slice (some (at' c.heap.size 0)) mem.toNat mem.toNat)).eval (.tmp 14)=.slice (some (at' c.heap.size 0)) mem.toNat mem.toNat:=by simp[Act.put,Act.eval,gV,m]
 refine⟨.value (.slice (some (at' c.heap.size 0)) mem.toNat mem.toNat),I,by simp[execOp,Lo.2.2,J],fun _=>⟨eV.refl _,?_⟩⟩;rw[Lm.2.2];have K:=H.put (d:=some 8) (fun o b=>by injection b with b;omega) t;exact x _ _ _ K (dI.rely u) (((n.nC _ _).trans ((q.nC _ _).trans i)).trans (u.nC _ _))
end
section
open Go Go.aA
variable [aR][aF][bq]
def af3{spec:FuncId→Option aA.Spec}{e:FuncId→Nat→Option cP}(o:∀f g,spec f=some g→br f g)(q:c6 (de spec e) bB){f:Nat}(r:aW f)(t:Code){h:List (List Bool)}
 {p:aI×List ah} {i:aI} {H:List ah} {s cs:List Bool} {u:Option (List Nat)} {v:dJ} (x:eg H.length u p (hO spec e f h i ⟨H,bJ,s,[]⟩)=some (v,p,cs)) (y:∀z∈cs,z=true)
 {β:aE} {w:World} {a:Act} (A:cL (aj f) (bN Tryz.prog f) β i a) (B:aL bB β H w) {j:Exit→Act→World→Prop}
 (C:∀d w' c,cL (aj f) (bN Tryz.prog f) c p.1 d→aL bB c p.2 w'→gL H.length β H w c p.2 w'→(∀b,b<H.length→c b=β b)→t.ef Tryz.prog j d w'):(n3 (cR Tryz.prog f) h t).ef Tryz.prog j a w:=
 fun b k l m n D=>Gw o q r t x y A B b k l m n fun d w' c E F I J=>C d w' c E F I J b k l m n D
def Lq:∀a∈([]:List Bool),a=true:=fun a h=>by cases h
def af4(h:U 8)(X:U 64)(M:Nat)(mem p:BitVec 32):(ua h X M mem p).M=M:=by
 unfold ua;have a:∀r (d:ww),(iter mY r d).M=d.M:=by
  intro r
  induction r with
  |zero=>exact fun d=>rfl|succ r c=>
   intro d;obtain⟨h,b,X,M,mem,p,e⟩:=d;exact(c (mY ⟨h,b,X,M,mem,p,e⟩)).trans (by dsimp only[mY])
 exact a _ _
def iA(h:U 8)(mem p:BitVec 32):U 64:=(ua h (o8 mem.toNat) mem.toNat mem p).X
def uc(h:U 8)(mem p:BitVec 32):U 8:=(ua h (o8 mem.toNat) mem.toNat mem p).h
structure Lr where
 (h:U 8)(mem p:BitVec 32)
def Ls(a:List af)(b:List ah):Option Lr:=
 match a with
 |[.ref (.ptr 0 (.c 0)),.num (.aD mem),.num (.aD p)]=>
  match b with
  |[⟨.ag h,.own⟩]=>some ⟨h,mem,p⟩|_=>none
 |_=>none
def xP:bT Lr where
 d0:=⟨0,0,0⟩
 read:=Ls
 args:=fun⟨_,mem,p⟩=>[.P 0,.num (.aD mem),.num (.aD p)]
 heap:=fun⟨h,_,_⟩=>[⟨.ag h,.own⟩]
 out:=fun⟨h,mem,p⟩=>[⟨.ag (uc h mem p),.own⟩,⟨.bt (iA h mem p),.own⟩]
 val:=fun⟨_,mem,_⟩=>(.sm 1 (.s mem.toNat) 128)
 aS:=fun⟨h,mem,p⟩=>decide (h.n=72∧2*p.toNat≤mem.toNat)
def af5:xP.Rd:=by
 intro a b d h;change Ls a b=some d at h;unfold Ls at h;repeat' split at h
 all_goals cases h
 exact⟨rfl,rfl⟩
def af6:br 32 xP.spec:=by
 refine xP.wz af5 fun d b β w vs k c l=>?_;obtain⟨h,mem,p⟩:=d;have b:=aZ b;have m:bN Tryz.prog 32=82:=by kernel_rfl
 refine SJ (C:=de nX qY) rfl (f:=32) (bq.plain 32 (by kernel_rfl)) (by kernel_rfl) k (by show 3≤bN Tryz.prog 32;rw[m];decide) fun a e=>?_
 show(cR Tryz.prog 32).ef _ _ _ _;rw[afX];have c:aL bB β [⟨.ag h,.own⟩] w:=c;have e:cL (aj 32) (bN Tryz.prog 32) β (SL mem p) a:=e;have i:=afW h (o8 mem.toNat) mem.toNat mem p;rw[af4]at i;refine af3 (H:=[⟨.ag h,.own⟩]) (p:=(Ll mem p,[⟨.ag h,.own⟩,⟨.gen yp,.own⟩])) Dd (SK _) Aq _ (afV h mem p) (fun n g=>by cases g) e c fun z w1 A o h1 q _=>zK (af2 (h:=h) o h1 fun B D E r h2 t=>?_);refine(Li Dd (SK _) 32 (bE 3 7) Aq).step (n0:=1) i ?_ (aX _) (by show 1≤3;decide) l r h2 (q.trans t) fun F I j v h3 x _ _=>?_
 ·refine ax ?_ aV;exact bl ⟨kI _,b.1,rfl,Lp _,rfl,b.2⟩
 ·exact⟨rfl,SN mem.toNat,⟨[⟨.ag (uc h mem p),.own⟩,⟨.bt (iA h mem p),.own⟩],bJ,[],[]⟩,⟨[⟨.ag (uc h mem p),.own⟩,⟨.bt (iA h mem p),.own⟩],bJ,[],[]⟩,[.ref (.sm 1 (.s mem.toNat) 128)],j,by kernel_rfl,(fun n g=>by cases g),v,h3,fun u y=>⟨u,j,rfl,y,h3,x⟩⟩
end
section
open Go.aA
variable [aR][aF][bq]
def pick(a:U 64)(i:Int):BitVec 64:=((List.range 128).map fun j=>a.l.getD j 0#64).getD i.toNat 0#64
def yu(b:U 8)(i:Int)(a:BitVec 64):U 8:=((((((((b.set ((0+(i*8).toNat*1)+0) (a.setWidth 8)).set ((0+(i*8).toNat*1)+1) ((a>>>8).setWidth 8)).set ((0+(i*8).toNat*1)+2) ((a>>>16).setWidth 8)).set ((0+(i*8).toNat*1)+3) ((a>>>24).setWidth 8)).set ((0+(i*8).toNat*1)+4) ((a>>>32).setWidth 8)).set ((0+(i*8).toNat*1)+5) ((a>>>40).setWidth 8)).set ((0+(i*8).toNat*1)+6) ((a>>>48).setWidth 8)).set ((0+(i*8).toNat*1)+7) ((a>>>56).setWidth 8))
structure sF where
 (X:U 64)(b:U 8)(Y:U 64)(M:Nat)(mem p kl ln la:BitVec 32)(i:Int)
def af7(d:sF):aI×List ah:=
 match d with
 |⟨X,b,a,M,mem,p,kl,c,e,i⟩=>(⟨[.ref (.sm 0 (.s M) 128),.num (.aD mem),.num (.aD p),.num (.aD kl),.aa,.aa,.aa,.aa,.atom .cI,.num (.aD c),.num (.aD e),.aa,.aa,.P 1,.aa,.aa,.aa],[⟨56,.aq i⟩,⟨55,.agg (dS a 128)⟩]⟩,[⟨.bt X,.own⟩,⟨.ag b,.own⟩])
def n4(d:sF):sF:=
 match d with
 |⟨X,b,a,M,mem,p,kl,c,e,i⟩=>⟨X,yu b i (pick a i),a,M,mem,p,kl,c,e,i+1⟩
def Lt(a:aI)(d:List ah):Option sF:=
 match a with
 |⟨[.ref (.sm 0 (.s M) 128),.num (.aD mem),.num (.aD p),.num (.aD kl),.atom .aa,.atom .aa,.atom .aa,.atom .aa,.atom .cI,.num (.aD e),.num (.aD f),.atom .aa,.atom .aa,.ref (.ptr 1 (.c 0)),.atom .aa,.atom .aa,.atom .aa],[⟨56,.num (.int .i64 (.s i))⟩,⟨55,.agg g⟩]⟩=>
  match d with
  |[⟨.bt X,.own⟩,⟨.ag b,.own⟩]=>
   (match jZ 128 g with
   |some h=>some ⟨X,b,h,M,mem,p,kl,e,f,i⟩|none=>none)
  |_=>none
 |_=>none
def ke:eN sF where
 d0:=⟨0,0,0,0,0,0,0,0,0,0⟩
 read:=Lt
 ay:=af7
 next:=n4
 rem:=fun⟨_,_,_,_,_,_,_,_,_,i⟩=>(128-i).toNat
 aS:=fun⟨_,b,_,_,_,_,_,_,_,i⟩=>decide (0≤i∧i≤128∧b.n=1024)
 out:=.exit 4
def af8(X:U 64)(b:U 8)(a:U 64)(M:Nat)(mem p kl c d:BitVec 32)(i:Int):ke.cB ⟨X,b,a,M,mem,p,kl,c,d,i⟩ (b6 2) (ke.ay (n4 ⟨X,b,a,M,mem,p,kl,c,d,i⟩)) (bZ cr aQ 34 2) [true] .normal [bV (i+1),decide (((0+((((i*8)):Int).toNat*1))+7)<b.n),(true&&decide ((7:Int)<((((((1024:Int)):Int).toNat-(((i*8)):Int).toNat):Nat):Int))),decide (((0+((((i*8)):Int).toNat*1))+6)<b.n),(true&&decide ((6:Int)<((((((1024:Int)):Int).toNat-(((i*8)):Int).toNat):Nat):Int))),decide (((0+((((i*8)):Int).toNat*1))+5)<b.n),(true&&decide ((5:Int)<((((((1024:Int)):Int).toNat-(((i*8)):Int).toNat):Nat):Int))),decide (((0+((((i*8)):Int).toNat*1))+4)<b.n),(true&&decide ((4:Int)<((((((1024:Int)):Int).toNat-(((i*8)):Int).toNat):Nat):Int))),decide (((0+((((i*8)):Int).toNat*1))+3)<b.n),(true&&decide ((3:Int)<((((((1024:Int)):Int).toNat-(((i*8)):Int).toNat):Nat):Int))),decide (((0+((((i*8)):Int).toNat*1))+2)<b.n),(true&&decide ((2:Int)<((((((1024:Int)):Int).toNat-(((i*8)):Int).toNat):Nat):Int))),decide (((0+((((i*8)):Int).toNat*1))+1)<b.n),(true&&decide ((1:Int)<((((((1024:Int)):Int).toNat-(((i*8)):Int).toNat):Nat):Int))),decide (((0+((((i*8)):Int).toNat*1))+0)<b.n),(true&&decide ((0:Int)<((((((1024:Int)):Int).toNat-(((i*8)):Int).toNat):Nat):Int))),decide (((0+((((i*8)):Int).toNat*1))+7)<b.n),(true&&decide ((7:Int)<((((((1024:Int)):Int).toNat-(((i*8)):Int).toNat):Nat):Int))),((decide (0≤(i*8))&&decide ((i*8)≤(1024:Int)))&&true),decide (1024≤b.n),bV (i*8),(decide (0≤i)&&decide (i<(128:Int))),(decide (i<128)==true)]:=by show _=_;kernel_rfl
def af9(X:U 64)(b:U 8)(a:U 64)(M:Nat)(mem p kl c d:BitVec 32)(i:Int):ke.cB ⟨X,b,a,M,mem,p,kl,c,d,i⟩ none (ke.fin ⟨X,b,a,M,mem,p,kl,c,d,i⟩) (bZ cr aQ 34 2) [false] ke.out [(decide (i<128)==false)]:=by show _=_;kernel_rfl
def aga(a:aI)(b:List ah)(d:sF)(h:ke.read a b=some d):(a,b)=ke.ay d:=by
 replace h:Lt a b=some d:=h;unfold Lt at h;split at h
 case h_2=>cases h
 split at h
 case h_2=>cases h
 split at h
 case h_2=>cases h
 rename_i c;obtain⟨rfl,_⟩:=kW c;cases h;rfl
def agb:dc Tryz.prog bB (aj 34) (bN Tryz.prog 34) (bg Tryz.prog 34 2) (bZ cr aQ 34 2):=iw fL (cK _) 34 2 Ga (by rw[show(cH Tryz.prog 34).length=3 by kernel_rfl];omega)
def agc:eH Tryz.prog bB (aj 34) (bN Tryz.prog 34) (bg Tryz.prog 34 2) ke.T.told:=by
 refine ke.j0 agb (by intro k g;have g:k∈([]:List ah):=g;cases g) (by intro h;cases h) aga ?_ ?_
 ·rintro⟨X,b,a,M,mem,p,kl,c,d,i⟩ l e f;have e:=aZ e;have f:(128-i).toNat=l+1:=f;have m:ke.next ⟨X,b,a,M,mem,p,kl,c,d,i⟩=n4 ⟨X,b,a,M,mem,p,kl,c,d,i⟩:=rfl;rw[m];refine⟨⟨[true],(b6 2),_,af8 X b a M mem p kl c d i,?_⟩,?_,?_,(show(ke.ay (n4 ⟨X,b,a,M,mem,p,kl,c,d,i⟩)).2.length=2 by kernel_rfl).trans (show(ke.ay ⟨X,b,a,M,mem,p,kl,c,d,i⟩).2.length=2 by kernel_rfl).symm⟩
  ·repeat'(refine ax ?_ ?_)
   all_goals first|exact aV|rfl|(simp only[cz]<;>omega)
  ·have j:ke.aS (n4 ⟨X,b,a,M,mem,p,kl,c,d,i⟩)=decide (0≤(i+1:Int)∧(i+1:Int)≤128∧(yu b i (pick a i):U 8).n=1024):=by kernel_rfl
   refine j.trans (bl ?_);have o:(yu b i (pick a i)).n=b.n:=rfl;omega
  ·have j:ke.rem (n4 ⟨X,b,a,M,mem,p,kl,c,d,i⟩)=((128-(i+1:Int)).toNat):=by kernel_rfl
   refine j.trans ?_;omega
 ·rintro⟨X,b,a,M,mem,p,kl,c,d,i⟩ e f;have e:=aZ e;have f:(128-i).toNat=0:=f;refine⟨[false],none,_,af9 X b a M mem p kl c d i,?_⟩
  repeat'(refine ax ?_ ?_)
  all_goals first|exact aV|rfl|(simp only[cz]<;>omega)
def Lu:cP:=ke.T.told
def agd:Told 34 2 Lu:=agc.run
def Dg(X b:U 64)(a:Nat)(i:Int):U 64:=X.set (a+i.toNat*1) (X.l.getD (a+i.toNat*1) 0#64^^^pick b i)
structure wA where
 (X Y:U 64)(M:Nat)(mem p kl ln la:BitVec 32)(i:Int)
def age(d:wA):aI×List ah:=
 match d with
 |⟨X,a,M,mem,p,kl,b,c,i⟩=>(⟨[.ref (.sm 0 (.s M) 128),.num (.aD mem),.num (.aD p),.num (.aD kl),.aa,.aa,.aa,.aa,.atom .cI,.num (.aD b),.num (.aD c),.aa,.aa,.aa,.aa,.aa,.aa],[⟨35,.aq i⟩,⟨34,.agg (dS a 128)⟩]⟩,[⟨.bt X,.own⟩])
def sG(d:wA):wA:=
 match d with
 |⟨X,a,M,mem,p,kl,b,c,i⟩=>⟨Dg X a (aT (mem-1#32)) i,a,M,mem,p,kl,b,c,i+1⟩
def Lv(a:aI)(b:List ah):Option wA:=
 match a with
 |⟨[.ref (.sm 0 (.s M) 128),.num (.aD mem),.num (.aD p),.num (.aD kl),.atom .aa,.atom .aa,.atom .aa,.atom .aa,.atom .cI,.num (.aD c),.num (.aD d),.atom .aa,.atom .aa,.atom .aa,.atom .aa,.atom .aa,.atom .aa],[⟨35,.num (.int .i64 (.s i))⟩,⟨34,.agg e⟩]⟩=>
  match b with
  |[⟨.bt X,.own⟩]=>
   (match jZ 128 e with
   |some f=>some ⟨X,f,M,mem,p,kl,c,d,i⟩|none=>none)
  |_=>none
 |_=>none
def kx:eN wA where
 d0:=⟨0,0,0,0,0,0,0,0,0⟩
 read:=Lv
 ay:=age
 next:=sG
 rem:=fun⟨_,_,_,_,_,_,_,_,i⟩=>(128-i).toNat
 aS:=fun⟨X,_,M,mem,_,_,_,_,i⟩=>decide (0≤i∧i≤128∧X.n=M*128∧(mem-1#32).toNat<M)
 out:=.exit 2
def agf(X a:U 64)(M:Nat)(mem p kl b c:BitVec 32)(i:Int):kx.cB ⟨X,a,M,mem,p,kl,b,c,i⟩ (some [0]) (kx.ay (sG ⟨X,a,M,mem,p,kl,b,c,i⟩)) (bZ cr aQ 34 1) [true] .normal [bV (i+1),decide (((0+((((((mem-(1#32)).toNat:Nat):Int)):Int).toNat*128))+(i.toNat*1))<X.n),(decide (0≤i)&&decide (i<(128:Int))),(decide ((0:Int)≤(((mem-(1#32)).toNat:Nat):Int))&&decide ((((mem-(1#32)).toNat:Nat):Int)<(M:Int))),decide (((0+((((((mem-(1#32)).toNat:Nat):Int)):Int).toNat*128))+(i.toNat*1))<X.n),(decide (0≤i)&&decide (i<(128:Int))),(decide ((0:Int)≤(((mem-(1#32)).toNat:Nat):Int))&&decide ((((mem-(1#32)).toNat:Nat):Int)<(M:Int))),(decide (0≤i)&&decide (i<(128:Int))),(decide (i<128)==true)]:=by show _=_;kernel_rfl
def agh(X a:U 64)(M:Nat)(mem p kl b c:BitVec 32)(i:Int):kx.cB ⟨X,a,M,mem,p,kl,b,c,i⟩ none (kx.fin ⟨X,a,M,mem,p,kl,b,c,i⟩) (bZ cr aQ 34 1) [false] kx.out [(decide (i<128)==false)]:=by show _=_;kernel_rfl
def agi(a:aI)(b:List ah)(d:wA)(h:kx.read a b=some d):(a,b)=kx.ay d:=by
 replace h:Lv a b=some d:=h;unfold Lv at h;split at h
 case h_2=>cases h
 split at h
 case h_2=>cases h
 split at h
 case h_2=>cases h
 rename_i c;obtain⟨rfl,_⟩:=kW c;cases h;rfl
def agj:dc Tryz.prog bB (aj 34) (bN Tryz.prog 34) (bg Tryz.prog 34 1) (bZ cr aQ 34 1):=iw fL (cK _) 34 1 Ga (by rw[show(cH Tryz.prog 34).length=3 by kernel_rfl];omega)
def agk:eH Tryz.prog bB (aj 34) (bN Tryz.prog 34) (bg Tryz.prog 34 1) kx.T.told:=by
 refine kx.j0 agj (by intro k f;have f:k∈([]:List ah):=f;cases f) (by intro h;cases h) agi ?_ ?_
 ·rintro⟨X,a,M,mem,p,kl,b,c,i⟩ j d e;have d:=aZ d;have e:(128-i).toNat=j+1:=e;have l:kx.next ⟨X,a,M,mem,p,kl,b,c,i⟩=sG ⟨X,a,M,mem,p,kl,b,c,i⟩:=rfl;rw[l];refine⟨⟨[true],(some [0]),_,agf X a M mem p kl b c i,?_⟩,?_,?_,(show(kx.ay (sG ⟨X,a,M,mem,p,kl,b,c,i⟩)).2.length=1 by kernel_rfl).trans (show(kx.ay ⟨X,a,M,mem,p,kl,b,c,i⟩).2.length=1 by kernel_rfl).symm⟩
  ·repeat'(refine ax ?_ ?_)
   all_goals first|exact aV|rfl|(simp only[cz]<;>omega)
  ·have g:kx.aS (sG ⟨X,a,M,mem,p,kl,b,c,i⟩)=decide (0≤(i+1:Int)∧(i+1:Int)≤128∧(Dg X a (aT (mem-1#32)) i:U 64).n=M*128∧(mem-1#32).toNat<M):=by kernel_rfl
   refine g.trans (bl ?_);have m:(Dg X a (aT (mem-1#32)) i).n=X.n:=rfl;omega
  ·have g:kx.rem (sG ⟨X,a,M,mem,p,kl,b,c,i⟩)=((128-(i+1:Int)).toNat):=by kernel_rfl
   refine g.trans ?_;omega
 ·rintro⟨X,a,M,mem,p,kl,b,c,i⟩ d e;have d:=aZ d;have e:(128-i).toNat=0:=e;refine⟨[false],none,_,agh X a M mem p kl b c i,?_⟩
  repeat'(refine ax ?_ ?_)
  all_goals first|exact aV|rfl|(simp only[cz]<;>omega)
def Lx:cP:=kx.T.told
def agl:Told 34 1 Lx:=agk.run
def qZ:FuncId→Nat→Option cP|34,6=>some Lx|_,_=>none
def agm:(cH Tryz.prog 34).length=3:=by kernel_rfl
def agn(spec:FuncId→Option aA.Spec):c6 (de spec qZ) bB:=by
 refine c6.of fun f=>?_;by_cases c:f=34
 ·subst c;refine .inr ⟨by kernel_rfl,fun i hi d a=>?_⟩;have hi:i<(cH Tryz.prog 34).length:=hi;rw[agm]at hi;have e:i=0∨i=1∨i=2:=by omega
  rcases e with rfl|rfl|rfl
  ·have b:(bX (bg Tryz.prog 34 0)).bind (qZ 34)=none:=by kernel_rfl
   have a:(bX (bg Tryz.prog 34 0)).bind (qZ 34)=some d:=a;rw[b]at a;cases a
  ·have b:(bX (bg Tryz.prog 34 1)).bind (qZ 34)=some Lx:=by kernel_rfl
   obtain rfl:=dV (b.symm.trans a);exact agl
  ·have b:(bX (bg Tryz.prog 34 2)).bind (qZ 34)=none:=by kernel_rfl
   have a:(bX (bg Tryz.prog 34 2)).bind (qZ 34)=some d:=a;rw[b]at a;cases a
 ·refine .inl fun r=>?_
  show qZ f r=none;unfold qZ;split
  ·exact absurd rfl c
  ·rfl
def rowAt(X:U 64)(a:Nat):U 64:=U.of ((List.range 128).map fun j=>X.l.getD (a+j) 0#64)
def Dh(a b:BitVec 32):BitVec 32:=b*a+a-1#32
def Di(X:U 64)(M:Nat)(mem p kl a b:BitVec 32):wA:=iter sG ((128-(0:Int)).toNat) ⟨X,rowAt X (aT (Dh a b)),M,mem,p,kl,a,b,0⟩
def SP:∀r (d:wA),(iter sG r d).X.n=d.X.n
 |0,d=>rfl|r+1,d=>by
  obtain⟨X,a,M,mem,p,kl,b,c,i⟩:=d;exact(SP r (sG ⟨X,a,M,mem,p,kl,b,c,i⟩)).trans rfl
def SQ(X:U 64)(M:Nat)(mem p kl a b:BitVec 32):(Di X M mem p kl a b).X.n=X.n:=SP _ _
def Ly{mem p ln la:BitVec 32}(b:ln.toNat=mem.toNat/p.toNat)(h2:2*p.toNat≤mem.toNat)(c:1≤p.toNat)(f:la.toNat<(p-1#32).toNat):(la*ln+ln-1#32).toNat<mem.toNat∧(mem-1#32).toNat<mem.toNat∧(la+1#32).toNat=la.toNat+1:=by
 have g:=mem.isLt;have h:=p.isLt;have i:(p-1#32).toNat=p.toNat-1:=by
  rw[kH];have a:(1#32).toNat=1:=rfl;rw[a];omega
 have j:(mem-1#32).toNat=mem.toNat-1:=by
  rw[kH];have a:(1#32).toNat=1:=rfl;rw[a];omega
 have k:2≤mem.toNat/p.toNat:=(Bx c).2 h2;have h3:p.toNat*(mem.toNat/p.toNat)≤mem.toNat:=Nat.mul_div_le ..;have h4:(la.toNat+1)*(mem.toNat/p.toNat)≤p.toNat*(mem.toNat/p.toNat):=fQ _ (by omega);rw[jR]at h4;have d:(la*ln).toNat=la.toNat*(mem.toNat/p.toNat):=by
  rw[iG,b];exact dM (by omega)
 have e:(la*ln+ln).toNat=la.toNat*(mem.toNat/p.toNat)+mem.toNat/p.toNat:=by
  rw[eD,d,b];exact dM (by omega)
 refine⟨?_,by omega,?_⟩
 ·rw[kH,e];have a:(1#32).toNat=1:=rfl;rw[a];omega
 ·rw[eD];have a:(1#32).toNat=1:=rfl;rw[a];omega
structure q2 where
 (X:U 64)(M:Nat)(mem p kl ln la:BitVec 32)
def ago(d:q2):aI×List ah:=
 match d with
 |⟨X,M,mem,p,kl,a,b⟩=>(⟨[.ref (.sm 0 (.s M) 128),.num (.aD mem),.num (.aD p),.num (.aD kl),.aa,.aa,.aa,.aa,.atom .cI,.num (.aD a),.num (.aD b),.aa,.aa,.aa,.aa,.aa,.aa],[]⟩,[⟨.bt X,.own⟩])
def kZ(d:q2):q2:=
 match d with
 |⟨X,M,mem,p,kl,a,b⟩=>⟨(Di X M mem p kl a b).X,M,mem,p,kl,a,b+1#32⟩
def Lz(a:aI)(b:List ah):Option q2:=
 match a with
 |⟨[.ref (.sm 0 (.s M) 128),.num (.aD mem),.num (.aD p),.num (.aD kl),.atom .aa,.atom .aa,.atom .aa,.atom .aa,.atom .cI,.num (.aD c),.num (.aD d),.atom .aa,.atom .aa,.atom .aa,.atom .aa,.atom .aa,.atom .aa],[]⟩=>
  match b with
  |[⟨.bt X,.own⟩]=>some ⟨X,M,mem,p,kl,c,d⟩|_=>none
 |_=>none
def n5:eN q2 where
 d0:=⟨0,0,0,0,0,0,0⟩
 read:=Lz
 ay:=ago
 next:=kZ
 rem:=fun⟨_,_,_,p,_,_,a⟩=>(p-1#32).toNat-a.toNat
 aS:=fun⟨X,M,mem,p,_,b,a⟩=>decide (a.toNat≤(p-1#32).toNat∧X.n=M*128∧M=mem.toNat∧b.toNat=mem.toNat/p.toNat∧2*p.toNat≤mem.toNat∧1≤p.toNat)
 out:=.exit 0
def agp(X:U 64)(M:Nat)(mem p kl a b:BitVec 32):n5.cB ⟨X,M,mem,p,kl,a,b⟩ (some [0]) (n5.ay (kZ ⟨X,M,mem,p,kl,a,b⟩)) (bZ cr qZ 34 0) [true] .normal [decide (((0:Int)≤0∧((0:Int)≤128∧(X.n=(M*128)∧(mem-(1#32)).toNat<M)))),decide (((0+(((((((((b*a)+a)-(1#32))).toNat:Nat):Int)):Int).toNat*128))+128)≤X.n),(decide ((0:Int)≤((((((b*a)+a)-(1#32))).toNat:Nat):Int))&&decide (((((((b*a)+a)-(1#32))).toNat:Nat):Int)<(M:Int))),(decide (b.toNat<(p-(1#32)).toNat)==true)]:=by show _=_;kernel_rfl
def agq(X:U 64)(M:Nat)(mem p kl b a:BitVec 32):n5.cB ⟨X,M,mem,p,kl,b,a⟩ none (n5.fin ⟨X,M,mem,p,kl,b,a⟩) (bZ cr qZ 34 0) [false] n5.out [(decide (a.toNat<(p-(1#32)).toNat)==false)]:=by show _=_;kernel_rfl
def agr:n5.Rd:=by
 intro a b d h;change Lz a b=some d at h;unfold Lz at h;repeat' split at h
 all_goals cases h
 rfl
def ags:dc Tryz.prog bB (aj 34) (bN Tryz.prog 34) (bg Tryz.prog 34 0) (bZ cr qZ 34 0):=iw fL (agn _) 34 0 Ga (by rw[show(cH Tryz.prog 34).length=3 by kernel_rfl];omega)
def agt:eH Tryz.prog bB (aj 34) (bN Tryz.prog 34) (bg Tryz.prog 34 0) n5.T.told:=by
 refine n5.j0 ags (by intro k e;have e:k∈([]:List ah):=e;cases e) (by intro h;cases h) agr ?_ ?_
 ·rintro⟨X,M,mem,p,kl,ln,la⟩ o a d;have a:=aZ a;have d:(p-1#32).toNat-la.toNat=o+1:=d;have q:n5.next ⟨X,M,mem,p,kl,ln,la⟩=kZ ⟨X,M,mem,p,kl,ln,la⟩:=rfl;rw[q];refine⟨⟨[true],(some [0]),_,agp X M mem p kl ln la,?_⟩,?_,?_,(show(n5.ay (kZ ⟨X,M,mem,p,kl,ln,la⟩)).2.length=1 by kernel_rfl).trans (show(n5.ay ⟨X,M,mem,p,kl,ln,la⟩).2.length=1 by kernel_rfl).symm⟩
  ·obtain⟨_,f,g,bf,b,c⟩:=a;obtain⟨j,l,m⟩:=Ly (mem:=mem) (p:=p) (ln:=ln) (la:=la) bf b c (by omega)
   repeat'(refine ax ?_ ?_)
   all_goals first|exact aV|rfl|(simp only[cz]<;>omega)
  ·have i:n5.aS (kZ ⟨X,M,mem,p,kl,ln,la⟩)=decide ((la+1#32:BitVec 32).toNat≤(p-1#32).toNat∧((Di X M mem p kl ln la).X:U 64).n=M*128∧M=mem.toNat∧ln.toNat=mem.toNat/p.toNat∧2*p.toNat≤mem.toNat∧1≤p.toNat):=by kernel_rfl
   refine i.trans (bl ?_);obtain⟨_,f,g,bf,b,c⟩:=a;obtain⟨j,l,m⟩:=Ly (mem:=mem) (p:=p) (ln:=ln) (la:=la) bf b c (by omega);have r:=SQ X M mem p kl ln la;exact⟨by omega,r.trans f,g,bf,b,c⟩
  ·have i:n5.rem (kZ ⟨X,M,mem,p,kl,ln,la⟩)=((p-1#32).toNat-(la+1#32:BitVec 32).toNat):=by kernel_rfl
   refine i.trans ?_;obtain⟨_,f,g,bf,b,c⟩:=a;obtain⟨j,l,m⟩:=Ly (mem:=mem) (p:=p) (ln:=ln) (la:=la) bf b c (by omega);omega
 ·rintro⟨X,M,mem,p,kl,ln,la⟩ a d;have a:=aZ a;have d:(p-1#32).toNat-la.toNat=0:=d;refine⟨[false],none,_,agq X M mem p kl ln la,?_⟩
  repeat'(refine ax ?_ ?_)
  all_goals first|exact aV|rfl|(simp only[cz]<;>omega)
def LA:cP:=n5.T.told
def agu:Told 34 0 LA:=agt.run
def q3(X:U 64)(a:Nat){j:Nat}(h:j<128):aK (rowAt X a) j=aK X (a+j):=C9 _ h
def wB(X:U 64)(a:Nat):(rowAt X a).n=128:=by
 show((List.range 128).map _).length=128;rw[lQ,Bu]
def SR(f:cw)(X T:U 64)(e a b:Nat)(g:T.n=128):∀k,k≤128→∃d,iter tP k ⟨f,X,T,e,a,b,0⟩=⟨f,X,d,e,a,b,(k:Int)⟩∧d.n=128∧∀n,n<k→aK d n=aK X (a+n)^^^aK X (b+n)
 |0,_=>⟨T,rfl,g,fun n h=>absurd h (by omega)⟩|k+1,m=>by
  obtain⟨d,i,h,j⟩:=SR f X T e a b g k (by omega);refine⟨At X d a b k,by rw[gB,i];rfl,h,fun n o=>?_⟩;have l:aK (At X d a b k) n=if n=0+k*1 then aK X (a+k*1)^^^aK X (b+k*1)else aK d n:=nS _ n (by show 0+k*1<_;omega)
  rw[l];by_cases c:n=k
  ·subst c;rw[av (by omega),w8]
  ·rw[ak (by omega),j n (by omega)]
def SS(f:cw)(X T:U 64)(a d e:Nat)(l:a+128≤X.n)(AB:a%128=0)(bE:d%128=0)(m:e%128=0):∀k,k≤128→∃b,iter p6 k ⟨f,X,T,a,d,e,0⟩=⟨f,b,T,a,d,e,(k:Int)⟩∧b.n=X.n∧
 ∀g,aK b g=if a≤g∧g<a+k then aK X g^^^((aK X (d+(g-a))^^^aK X (e+(g-a)))^^^aK T (g-a))else aK X g
 |0,_=>⟨X,rfl,rfl,fun g=>by rw[ak (by omega)]⟩|k+1,q=>by
  obtain⟨b,o,h,i⟩:=SS f X T a d e l AB bE m k (by omega);refine⟨vS b T a d e k,by rw[gB,o];rfl,h,fun n=>?_⟩;have p:aK (vS b T a d e k) n=if n=a+k*1 then aK b (a+k*1)^^^((aK b (d+k*1)^^^aK b (e+k*1))^^^aK T (0+k*1))else aK b n:=nS _ n (by show a+k*1<_;omega)
  rw[p];by_cases c:n=a+k*1
  ·rw[av c,av (by omega),i (a+k*1),i (d+k*1),i (e+k*1),ak (by omega),ak (by omega),ak (by omega),c,uI,cM]
  ·rw[ak c,i n];by_cases j:a≤n∧n<a+k
   ·rw[av j,av (by omega)]
   ·rw[ak j,ak (by omega)]
def SU(f:cw)(X:U 64)(a b d:Nat)(l:a+128≤X.n)(AB:a%128=0)(bE:b%128=0)(m:d%128=0):(fl f X a b d).n=X.n∧
 ∀e,aK (fl f X a b d) e=if a≤e∧e<a+128 then aK X e^^^aK (bw (rowAt X b) (rowAt X d)) (e-a)else aK X e:=by
 have g:(U.of (List.replicate 128 0#64)).n=128:=by
  show(List.replicate 128 0#64).length=128;rw[nh]
 obtain⟨i,o,h,p⟩:=SR f X (U.of (List.replicate 128 0#64)) a b d g 128 (aX _);have q:jX f X a b d=⟨f,X,i,a,b,d,((128:Nat):Int)⟩:=o;have yt:i=kY (rowAt X b) (rowAt X d):=vX (h.trans (AD _ _).symm) fun n g=>by
  have g:n<128:=by omega
  rw[p n g,Gm _ _ g,q3 _ _ g,q3 _ _ g]
 obtain⟨k,r,s,t⟩:=SS f X (fY hJ i) a b d l AB bE m 128 (aX _);have u:Gd f X a b d=iter p6 128 ⟨f,X,fY hJ i,a,b,d,0⟩:=by
  show iter p6 ((128-(0:Int)).toNat) ⟨f,(jX f X a b d).X,fY hJ (jX f X a b d).T,a,b,d,0⟩=_;rw[q];rfl
 have ex:fl f X a b d=k:=by
  show(Gd f X a b d).X=k;rw[u,r]
 rw[ex];refine⟨s,fun e=>?_⟩;rw[t e];by_cases c:a≤e∧e<a+128
 ·have j:e-a<128:=by omega
  rw[av c,av c,Gn _ _ j,q3 _ _ j,q3 _ _ j,yt]
 ·rw[ak c,ak c]
def SV(b c:U 64):bw b c=bw c b:=by
 have d:kY b c=kY c b:=vX rfl fun n a=>by
  have a:n<128:=by rw[AD]at a;exact a
  rw[Gm _ _ a,Gm _ _ a,Ie]
 refine vX ((yh _ _).trans (yh _ _).symm) fun n a=>?_;have a:n<128:=by rw[yh]at a;exact a
 rw[Gn _ _ a,Gn _ _ a,d,Ie (aK b n)]
def o9(a:BitVec 64)(b:Int):Nat:=((BitVec.ofInt 64 b*((a*a)>>>32))>>>32:BitVec 64).toNat
def q4(b:BitVec 64)(co c a:Int):Int:=(c+a-1-(o9 b a:Int)).tmod co
def pe(a:BitVec 64)(b c d sl:Int):Int:=if c=0∧sl=0 then d else((a%BitVec.ofInt 64 b:BitVec 64).toNat:Int)
def q5(co a sl:Int):Int:=if a=0 then 0 else(sl+1).tmod 4*co.tdiv 4
def n6(co a sl:Int):Int:=if a=0 then sl*co.tdiv 4 else co-co.tdiv 4
def mh(c:BitVec 64)(d co a b sl pl:Int):Int:=if pe c d a b sl=b then n6 co a sl+(pl-1)else if pl=0 then n6 co a sl-1 else n6 co a sl
def Gz(b c:BitVec 64)(d co a e sl pl:Int):Int:=q4 b co (q5 co a sl) (mh c d co a e sl pl)
def bV(z:Int):Bool:=decide ((-9223372036854775808:Int)≤z∧z≤9223372036854775807)
def agv(c:BitVec 64)(co b a:Int):List Bool:=[decide (co≠0),bV (b+a-1-(o9 c a:Int)),bV (b+a-1),bV (b+a),decide ((o9 c a:Int)≤9223372036854775807)]
def agw(co c b of a pl:Int):Nat→List Bool|0=>[bV (b+(pl-1)),bV (pl-1),(of==a)==true]|1=>[bV (b-1),(pl==0)==true,(of==a)==false]|_=>[(pl==0)==false,(of==a)==false]
def agx(co a sl:Int):Bool→List Bool|true=>[decide ((0:Int)<a)==false,bV (sl*co.tdiv 4)]|false=>[bV ((sl+1).tmod 4*co.tdiv 4),decide ((4:Int)≠0),bV (sl+1),bV (co-co.tdiv 4),decide ((0:Int)<a)==true,bV (sl*co.tdiv 4)]
def ud(d e:BitVec 64)(b co a f sl pl of g h c:Int)(k:Nat)(p z:Bool):List Bool:=
 agv d co g c++(agw co c h of f pl k++(agx co a sl p++((if p then [(sl==0)==z]else [])++[(a==0)==p,(a==0)==p,(a==0)==p,decide (((e%BitVec.ofInt 64 b:BitVec 64).toNat:Int)≤9223372036854775807),BitVec.ofInt 64 b !=0#64,decide ((0:Int)≤co∧(0:Int)<4∧co≤9223372036854775807)])))
structure SW where
 (kd ps la co:Int)(x y:BitVec 64)(pa ln sl pl:Int)
def LB(a:List af)(b:List ah):Option SW:=
 match a with
 |[.ref (.ptr 0 (.c 0)),.num (.au d),.num (.au e),.num (.int .i64 (.s f)),.num (.int .i64 (.s g)),.num (.int .i64 (.s sl)),.num (.int .i64 (.s pl))]=>
  match b with
  |[⟨.gen [.num (.int .i64 (.s h)),.num (.int .i64 (.s i)),.num (.int .i64 (.s j)),.num (.int .i64 (.s co)),.atom .aa,.atom .aa],.ro⟩]=>some ⟨h,i,j,co,d,e,f,g,sl,pl⟩|_=>none
 |_=>none
def kC:bT SW where
 d0:=⟨0,0,0,0,0,0,0,0,0,0⟩
 read:=LB
 args:=fun⟨_,_,_,_,e,d,a,c,sl,pl⟩=>[.P 0,.num (.au e),.num (.au d),.aq a,.aq c,.aq sl,.aq pl]
 heap:=fun⟨f,g,b,co,_,_,_,_,_,_⟩=>[⟨.gen [.aq f,.aq g,.aq b,.aq co,.aa,.aa],.ro⟩]
 val:=fun⟨_,_,b,co,e,d,a,c,sl,pl⟩=>(.obj .bx [.aq (pe d b a c sl),.aq (Gz e d b co a c sl pl)])
 aS:=fun⟨_,_,b,co,_,_,a,c,sl,pl⟩=>decide (1≤b∧b≤8∧8≤co∧co≤256∧co.tdiv 4*4=co∧0≤a∧a≤3∧0≤sl∧sl≤3∧0≤c∧c<b∧0≤pl∧pl<co.tdiv 4∧(a=0→sl=0→2≤pl))
def agy:kC.Rd:=by
 intro a b d h;change LB a b=some d at h;unfold LB at h;repeat' split at h
 all_goals cases h
 exact⟨rfl,rfl⟩
def agz(f g c co:Int)(b d:BitVec 64)(e a sl pl:Int):kC.cB ⟨f,g,c,co,b,d,e,a,sl,pl⟩ (some [0]) (bY cr aQ 38) (bE 6 47) (kC.out ⟨f,g,c,co,b,d,e,a,sl,pl⟩) (.obj .bx [.aq a,.aq (q4 b co 0 (sl*co.tdiv 4+(pl-1)))]) (ud b d c co e a sl pl a 0 (sl*co.tdiv 4) (sl*co.tdiv 4+(pl-1)) 0 true true):=by show _=_;kernel_rfl
def agA(f g a co:Int)(c b:BitVec 64)(d e sl pl:Int):kC.cB ⟨f,g,a,co,c,b,d,e,sl,pl⟩ (some [0]) (bY cr aQ 38) (bE 6 39) (kC.out ⟨f,g,a,co,c,b,d,e,sl,pl⟩) (.obj .bx [.aq ((b%BitVec.ofInt 64 a:BitVec 64).toNat:Int),.aq (q4 c co 0 (sl*co.tdiv 4+(pl-1)))]) (ud c b a co d e sl pl ((b%BitVec.ofInt 64 a:BitVec 64).toNat:Int) 0 (sl*co.tdiv 4) (sl*co.tdiv 4+(pl-1)) 0 true false):=by show _=_;kernel_rfl
def agB(f g a co:Int)(c b:BitVec 64)(d e sl pl:Int):kC.cB ⟨f,g,a,co,c,b,d,e,sl,pl⟩ (some [0]) (bY cr aQ 38) (bE 7 71) (kC.out ⟨f,g,a,co,c,b,d,e,sl,pl⟩) (.obj .bx [.aq ((b%BitVec.ofInt 64 a:BitVec 64).toNat:Int),.aq (q4 c co 0 (sl*co.tdiv 4-1))]) (ud c b a co d e sl pl ((b%BitVec.ofInt 64 a:BitVec 64).toNat:Int) 0 (sl*co.tdiv 4) (sl*co.tdiv 4-1) 1 true false):=by show _=_;kernel_rfl
def agC(f g a co:Int)(c b:BitVec 64)(d e sl pl:Int):kC.cB ⟨f,g,a,co,c,b,d,e,sl,pl⟩ (some [0]) (bY cr aQ 38) (bE 7 7) (kC.out ⟨f,g,a,co,c,b,d,e,sl,pl⟩) (.obj .bx [.aq ((b%BitVec.ofInt 64 a:BitVec 64).toNat:Int),.aq (q4 c co 0 (sl*co.tdiv 4))]) (ud c b a co d e sl pl ((b%BitVec.ofInt 64 a:BitVec 64).toNat:Int) 0 (sl*co.tdiv 4) (sl*co.tdiv 4) 2 true false):=by show _=_;kernel_rfl
def agD(f g a co:Int)(c b:BitVec 64)(d e sl pl:Int):kC.cB ⟨f,g,a,co,c,b,d,e,sl,pl⟩ (some [0]) (bY cr aQ 38) (bE 5 24) (kC.out ⟨f,g,a,co,c,b,d,e,sl,pl⟩) (.obj .bx [.aq ((b%BitVec.ofInt 64 a:BitVec 64).toNat:Int),.aq (q4 c co ((sl+1).tmod 4*co.tdiv 4) (co-co.tdiv 4+(pl-1)))]) (ud c b a co d e sl pl ((b%BitVec.ofInt 64 a:BitVec 64).toNat:Int) ((sl+1).tmod 4*co.tdiv 4) (co-co.tdiv 4) (co-co.tdiv 4+(pl-1)) 0 false false):=by show _=_;kernel_rfl
def agE(f g a co:Int)(c b:BitVec 64)(d e sl pl:Int):kC.cB ⟨f,g,a,co,c,b,d,e,sl,pl⟩ (some [0]) (bY cr aQ 38) (bE 6 40) (kC.out ⟨f,g,a,co,c,b,d,e,sl,pl⟩) (.obj .bx [.aq ((b%BitVec.ofInt 64 a:BitVec 64).toNat:Int),.aq (q4 c co ((sl+1).tmod 4*co.tdiv 4) (co-co.tdiv 4-1))]) (ud c b a co d e sl pl ((b%BitVec.ofInt 64 a:BitVec 64).toNat:Int) ((sl+1).tmod 4*co.tdiv 4) (co-co.tdiv 4) (co-co.tdiv 4-1) 1 false false):=by show _=_;kernel_rfl
def agF(f g a co:Int)(c b:BitVec 64)(d e sl pl:Int):kC.cB ⟨f,g,a,co,c,b,d,e,sl,pl⟩ (some [0]) (bY cr aQ 38) (bE 6 8) (kC.out ⟨f,g,a,co,c,b,d,e,sl,pl⟩) (.obj .bx [.aq ((b%BitVec.ofInt 64 a:BitVec 64).toNat:Int),.aq (q4 c co ((sl+1).tmod 4*co.tdiv 4) (co-co.tdiv 4))]) (ud c b a co d e sl pl ((b%BitVec.ofInt 64 a:BitVec 64).toNat:Int) ((sl+1).tmod 4*co.tdiv 4) (co-co.tdiv 4) (co-co.tdiv 4) 2 false false):=by show _=_;kernel_rfl
def agG(a:BitVec 64)(b:Int):o9 a b<4294967296:=by
 unfold o9;rw[y7,w5];have:=(BitVec.ofInt 64 b*((a*a)>>>32):BitVec 64).isLt;omega
def hU{z:Int}(h: -9000000000≤z∧z≤9000000000):bV z=true:=bl (by omega)
def LC{a:Int}(h:1≤a∧a≤8):(BitVec.ofInt 64 a).toNat=a.toNat:=by
 rw[rJ];omega
def agH{x y:BitVec 64}{la co pa ln sl pl of sH b0 mn:Int}{k:Nat}{p z:Bool}(h1:1≤la∧la≤8)(h2:8≤co∧co≤256∧co.tdiv 4*4=co)(h3:0≤pa∧pa≤3)(h4:0≤sl∧sl≤3)(m:0≤pl∧pl<co.tdiv 4)(n:0≤sH∧sH≤256)(o:0≤b0∧b0≤256)(q: -1≤mn∧mn≤512)
 (c:match k with|0=>of=ln|1=>pl=0∧of≠ln|_=>pl≠0∧of≠ln) (d:if p=true then pa=0 else pa≠0) (f:p=true→(if z=true then sl=0 else sl≠0)):∀b∈ud x y la co pa ln sl pl of sH b0 mn k p z,b=true:=by
 have r:=agG x mn;have h:0≤sl*co.tdiv 4∧sl*co.tdiv 4≤256∧0≤(sl+1).tmod 4*co.tdiv 4∧(sl+1).tmod 4*co.tdiv 4≤256:=by
  have i:sl=0∨sl=1∨sl=2∨sl=3:=by omega
  rcases i with rfl|rfl|rfl|rfl<;>simp only[Int.reduceAdd,Int.reduceTMod]<;>omega
 obtain⟨s,t,u,v⟩:=h;intro b e;unfold ud at e;rcases fR.1 e with a|e
 ·exact ax (bl (by omega)) (ax (hU (by omega)) (ax (hU (by omega)) (ax (hU (by omega)) (ax (bl (by omega)) aV)))) b a
 rcases fR.1 e with a|e
 ·match k,c,a with
  |0,c,a=>
   have c:of=ln:=c;exact ax (hU (by omega)) (ax (hU (by omega)) (ax (by simp[c]) aV)) b a
  |1,c,a=>
   have c:pl=0∧of≠ln:=c;exact ax (hU (by omega)) (ax (by simp[c.1]) (ax (by simp[c.2]) aV)) b a
  |k+2,c,a=>
   have c:pl≠0∧of≠ln:=c;exact ax (by simp[c.1]) (ax (by simp[c.2]) aV) b a
 rcases fR.1 e with a|e
 ·cases p with
  |true=>
   have d:pa=0:=d;exact ax (by simp[d]) (ax (hU (by omega)) aV) b a
  |false=>
   have d:pa≠0:=d;have j:0<pa:=by omega
   exact ax (hU (by omega)) (ax rfl (ax (hU (by omega)) (ax (hU (by omega)) (ax (by simp[j]) (ax (hU (by omega)) aV))))) b a
 have g:((pa==0)==p)=true:=by
  cases p with
  |true=>have d:pa=0:=d;simp[d]
  |false=>have d:pa≠0:=d;simp[d]
 rcases fR.1 e with a|e
 ·cases p with
  |true=>
   have f:=f rfl;rw[av rfl]at a;cases z with
   |true=>have f:sl=0:=f;exact ax (by simp[f]) aV b a
   |false=>have f:sl≠0:=f;exact ax (by simp[f]) aV b a
  |false=>cases a
 ·refine ax g (ax g (ax g (ax (bl ?_) (ax ?_ (ax (bl (by omega)) aV))))) b e
  ·have:(y%BitVec.ofInt 64 la).toNat<la.toNat:=by rw[ow,LC h1];exact qu _ (by omega)
   omega
  ·rw[bne_iff_ne];intro l;have:=iZ BitVec.toNat l;rw[LC h1]at this;simp at this;omega
def agI:br 38 kC.spec:=by
 refine kC.ok (dm fL (cK _)) agy ?_;rintro⟨l,m,la,co,x,y,pa,ln,sl,pl⟩ j;have j:=aZ j;obtain⟨n,o,q,bf,r,t,u,cE,v,H,I,w,A,B⟩:=j;have C:0≤sl*co.tdiv 4∧sl*co.tdiv 4≤192∧0≤(sl+1).tmod 4*co.tdiv 4∧(sl+1).tmod 4*co.tdiv 4≤192∧(sl≠0→2≤sl*co.tdiv 4):=by
  have D:sl=0∨sl=1∨sl=2∨sl=3:=by omega
  rcases D with rfl|rfl|rfl|rfl<;>simp only[Int.reduceAdd,Int.reduceTMod]<;>omega
 obtain⟨J,K,L,M,E⟩:=C;have f:=fun of sH b0 mn k p z=>agH (x:=x) (y:=y) (la:=la) (co:=co) (pa:=pa) (ln:=ln) (sl:=sl) (pl:=pl) (of:=of) (sH:=sH) (b0:=b0) (mn:=mn) (k:=k) (p:=p) (z:=z) ⟨n,o⟩ ⟨q,bf,r⟩ ⟨t,u⟩ ⟨cE,v⟩ ⟨w,A⟩;have ev:∀of sH mn,pe y la pa ln sl=of→q5 co pa sl=sH→mh y la co pa ln sl pl=mn→kC.val ⟨l,m,la,co,x,y,pa,ln,sl,pl⟩=.obj .bx [.num (.int .i64 (.s of)),.num (.int .i64 (.s (q4 x co sH mn)))]:=by
  intro of sH mn b g F;subst b g F;rfl
 by_cases a:pa=0
 ·by_cases e:sl=0
  ·have b:pe y la pa ln sl=ln:=av ⟨a,e⟩;rw[ev ln 0 (sl*co.tdiv 4+(pl-1)) b (av a) (by unfold mh n6;rw[av b,av a])];exact⟨_,_,_,agz ..,f _ _ _ _ _ _ _ (by omega) (by omega) (by have:=B a e;omega) rfl a fun _=>e⟩
  ·have b:pe y la pa ln sl=((y%BitVec.ofInt 64 la:BitVec 64).toNat:Int):=ak fun h=>e h.2;by_cases c:((y%BitVec.ofInt 64 la:BitVec 64).toNat:Int)=ln
   ·rw[ev _ 0 (sl*co.tdiv 4+(pl-1)) b (av a) (by unfold mh n6;rw[av (b.trans c),av a])];exact⟨_,_,_,agA ..,f _ _ _ _ _ _ _ (by omega) (by omega) (by omega) c a fun _=>e⟩
   ·have i:¬pe y la pa ln sl=ln:=fun h=>c (b.symm.trans h);by_cases d:pl=0
    ·rw[ev _ 0 (sl*co.tdiv 4-1) b (av a) (by unfold mh n6;rw[ak i,av d,av a])];exact⟨_,_,_,agB ..,f _ _ _ _ _ _ _ (by omega) (by omega) (by have:=E e;omega) ⟨d,c⟩ a fun _=>e⟩
    ·rw[ev _ 0 (sl*co.tdiv 4) b (av a) (by unfold mh n6;rw[ak i,ak d,av a])];exact⟨_,_,_,agC ..,f _ _ _ _ _ _ _ (by omega) (by omega) (by omega) ⟨d,c⟩ a fun _=>e⟩
 ·have b:pe y la pa ln sl=((y%BitVec.ofInt 64 la:BitVec 64).toNat:Int):=ak fun h=>a h.1;have g:q5 co pa sl=(sl+1).tmod 4*co.tdiv 4:=ak a;by_cases c:((y%BitVec.ofInt 64 la:BitVec 64).toNat:Int)=ln
  ·rw[ev _ _ (co-co.tdiv 4+(pl-1)) b g (by unfold mh n6;rw[av (b.trans c),ak a])];exact⟨_,_,_,agD ..,f _ _ _ _ _ _ _ (by omega) (by omega) (by omega) c a fun h=>by cases h⟩
  ·have i:¬pe y la pa ln sl=ln:=fun h=>c (b.symm.trans h);by_cases d:pl=0
   ·rw[ev _ _ (co-co.tdiv 4-1) b g (by unfold mh n6;rw[ak i,av d,ak a])];exact⟨_,_,_,agE ..,f _ _ _ _ _ _ _ (by omega) (by omega) (by omega) ⟨d,c⟩ a fun h=>by cases h⟩
   ·rw[ev _ _ (co-co.tdiv 4) b g (by unfold mh n6;rw[ak i,ak d,ak a])];exact⟨_,_,_,agF ..,f _ _ _ _ _ _ _ (by omega) (by omega) (by omega) ⟨d,c⟩ a fun h=>by cases h⟩
def GA(a:U 64→U 64→U 64):bT Gg:={tS with val:=fun⟨b,c⟩=>.agg (dS (a b c) 128)}
def SX:GA bw=tS:=by
 have h:GA (tR gM)=tS:=rfl;rw[←h,show tR gM=bw from funext fun a=>funext fun b=>aej a b]
def LD(a:U 64→U 64→U 64):FuncId→Option aA.Spec|29=>some (GA a).spec|_=>none
def agJ:∀f a,LD bw f=some a→br f a:=by
 intro f a h;unfold LD at h;split at h
 ·cases h;rw[SX];exact Se
 ·cases h
def Dj(a b c co d e sl pl:Int):U 64:=U.of ([BitVec.ofInt 64 d,BitVec.ofInt 64 e,BitVec.ofInt 64 sl,BitVec.ofInt 64 (c*co),BitVec.ofInt 64 b,BitVec.ofInt 64 a,BitVec.ofInt 64 (pl.tdiv 128+1)]++List.replicate 121 0#64)
def q6(a:U 64→U 64→U 64)(b c d co e f sl pl:Int):U 64:=a jh (dg (a jh (Dj b c d co e f sl pl)))
structure LF where
 (kd ps la co pa ln sl pl:Int)
def LG(a:List af)(b:List ah):Option LF:=
 match a with
 |[.ref (.ptr 0 (.c 0)),.num (.int .i64 (.s d)),.num (.int .i64 (.s e)),.num (.int .i64 (.s sl)),.num (.int .i64 (.s pl))]=>
  match b with
  |[⟨.gen [.num (.int .i64 (.s f)),.num (.int .i64 (.s g)),.num (.int .i64 (.s h)),.num (.int .i64 (.s co)),.atom .aa,.atom .aa],.ro⟩]=>some ⟨f,g,h,co,d,e,sl,pl⟩|_=>none
 |_=>none
def yw:bT LF where
 d0:=⟨0,0,0,0,0,0,0,0⟩
 read:=LG
 args:=fun⟨_,_,_,_,b,c,sl,pl⟩=>[.P 0,.aq b,.aq c,.aq sl,.aq pl]
 heap:=fun⟨d,e,a,co,_,_,_,_⟩=>[⟨.gen [.aq d,.aq e,.aq a,.aq co,.aa,.aa],.ro⟩]
 val:=fun⟨d,e,a,co,b,c,sl,pl⟩=>(.agg (dS (q6 bw d e a co b c sl pl) 128))
 aS:=fun⟨_,_,a,co,_,_,_,pl⟩=>decide (0≤a∧a≤8∧0≤co∧co≤256∧0≤pl∧pl≤256)
def agK:yw.Rd:=by
 intro a b d h;change LG a b=some d at h;unfold LG at h;repeat' split at h
 all_goals cases h
 exact⟨rfl,rfl⟩
def agL(f:U 64→U 64→U 64)(b c a co d e sl pl:Int):yw.cB ⟨b,c,a,co,d,e,sl,pl⟩ (some [0]) (bY (LD f) aQ 53) [] (yw.out ⟨b,c,a,co,d,e,sl,pl⟩) (.agg (dS (q6 f b c a co d e sl pl) 128)) [true,true,bV ((Int.tdiv pl 128)+1),decide ((0≤pl∧((0:Int)<128∧pl≤9223372036854775807))),bV (a*co)]:=by show _=_;kernel_rfl
def agM:br 53 yw.spec:=by
 refine yw.ok (dm agJ (cK _)) agK ?_;rintro⟨g,h,b,co,i,j,sl,pl⟩ a;have a:=aZ a;obtain⟨d,e,c,bf,f,k⟩:=a;have h1:0≤b*co:=Int.mul_nonneg d c;have h3:pl.tdiv 128=pl/128:=pK f;have h2:b*co≤8*256:=Int.mul_le_mul e bf c (by omega);exact⟨_,_,_,agL ..,ax rfl (ax rfl (ax (hU (by omega)) (ax (bl (by omega)) (ax (hU (by omega)) aV))))⟩
abbrev ue:=Int→Int→Int→Int→Int→Int→Int→Int→U 64
def SY(ad:ue):bT LF:={yw with val:=fun⟨a,ps,la,co,pa,ln,sl,pl⟩=>.agg (dS (ad a ps la co pa ln sl pl) 128)}
def agN:SY (q6 bw)=yw:=rfl
def yx(ad:ue):FuncId→Option aA.Spec|53=>some (SY ad).spec|_=>none
def agO:∀f a,yx (q6 bw) f=some a→br f a:=by
 intro f a h;unfold yx at h;split at h
 ·cases h;rw[agN];exact agM
 ·cases h
def GB(a b sl:Int):Prop:=a=1∨(a=2∧b=0∧sl<2)
instance(a b sl:Int):Decidable (GB a b sl):=inferInstanceAs (Decidable (_∨_))
def AO(ad:ue)(a b c co d e sl pl:Int):BitVec 64:=(dg (ad a b c co d e sl pl)).l.getD (pl.tmod 128).toNat 0#64
def Dk(ad:ue)(a d e co c f sl pl:Int)(b:U 64):BitVec 64:=if GB a c sl then AO ad a d e co c f sl pl else b.l.getD 0 0#64
structure GC where
 (kd ps la co pa ln sl pl:Int)(b:U 64)
def LH(a:List af)(d:List ah):Option GC:=
 match a with
 |[.ref (.ptr 0 (.c 0)),.num (.int .i64 (.s e)),.num (.int .i64 (.s f)),.num (.int .i64 (.s sl)),.num (.int .i64 (.s pl)),.agg g]=>
  match d with
  |[⟨.gen [.num (.int .i64 (.s h)),.num (.int .i64 (.s i)),.num (.int .i64 (.s j)),.num (.int .i64 (.s co)),.atom .aa,.atom .aa],.ro⟩]=>
   (match jZ 128 g with
   |some b=>some ⟨h,i,j,co,e,f,sl,pl,b⟩|none=>none)
  |_=>none
 |_=>none
def k3:bT GC where
 d0:=⟨0,0,0,0,0,0,0,0,0⟩
 read:=LH
 args:=fun⟨_,_,_,_,c,d,sl,pl,b⟩=>[.P 0,.aq c,.aq d,.aq sl,.aq pl,.agg (dS b 128)]
 heap:=fun⟨e,f,a,co,_,_,_,_,_⟩=>[⟨.gen [.aq e,.aq f,.aq a,.aq co,.aa,.aa],.ro⟩]
 val:=fun⟨e,f,a,co,c,d,sl,pl,b⟩=>(.obj .bx [.num (.au (Dk (q6 bw) e f a co c d sl pl b&&&4294967295#64)),.num (.au (Dk (q6 bw) e f a co c d sl pl b>>>32))])
 aS:=fun⟨_,_,a,co,_,_,_,pl,_⟩=>decide (0≤a∧a≤8∧0≤co∧co≤256∧0≤pl∧pl≤256)
def agP(a:List af)(b:List ah)(d:GC)(h:k3.read a b=some d):a=k3.args d∧b=k3.heap d:=by
 replace h:LH a b=some d:=h;unfold LH at h;split at h
 case h_2=>cases h
 split at h
 case h_2=>cases h
 split at h
 case h_2=>cases h
 rename_i c;obtain⟨rfl,_⟩:=kW c;cases h;exact⟨rfl,rfl⟩
def agQ(ad:ue)(a d c co e f sl pl:Int)(b:U 64):k3.cB ⟨a,d,c,co,e,f,sl,pl,b⟩ (some [0]) (bY (yx ad) aQ 37) (bE 10 1023) (k3.out ⟨a,d,c,co,e,f,sl,pl,b⟩) (.obj .bx [.num (.au (AO ad a d c co e f sl pl&&&4294967295#64)),.num (.au ((AO ad a d c co e f sl pl)>>>32))]) [(decide (0≤(Int.tmod pl 128))&&decide ((Int.tmod pl 128)<(128:Int))),decide ((128:Int)≠0),decide ((0≤c∧(c≤8∧(0≤co∧(co≤256∧(0≤pl∧pl≤256)))))),((a==1)==true),((a==1)==true),((a==1)==true),((a==1)==true),((a==1)==true),((a==1)==true),((a==1)==true),((a==1)==true),((a==1)==true),((a==1)==true)]:=by show _=_;kernel_rfl
def agR(ad:ue)(a e d co c f sl pl:Int)(b:U 64):k3.cB ⟨a,e,d,co,c,f,sl,pl,b⟩ (some [0]) (bY (yx ad) aQ 37) (bE 17 88768) (k3.out ⟨a,e,d,co,c,f,sl,pl,b⟩) (.obj .bx [.num (.au (AO ad a e d co c f sl pl&&&4294967295#64)),.num (.au ((AO ad a e d co c f sl pl)>>>32))]) [(decide (0≤(Int.tmod pl 128))&&decide ((Int.tmod pl 128)<(128:Int))),decide ((128:Int)≠0),decide ((0≤d∧(d≤8∧(0≤co∧(co≤256∧(0≤pl∧pl≤256)))))),(decide (sl<2)==true),((a==1)==false),((c==0)==true),((a==1)==false),((c==0)==true),((c==0)==true),((a==1)==false),((a==2)==true),((a==1)==false),((a==2)==true),((a==2)==true),((a==1)==false),((a==1)==false),((a==1)==false),((a==1)==false),((a==1)==false),((a==1)==false)]:=by show _=_;kernel_rfl
def agS(ad:ue)(a d e co c f sl pl:Int)(b:U 64):k3.cB ⟨a,d,e,co,c,f,sl,pl,b⟩ (some [0]) (bY (yx ad) aQ 37) (bE 16 704) (k3.out ⟨a,d,e,co,c,f,sl,pl,b⟩) (.obj .bx [.num (.au (b.l.getD 0 0#64&&&4294967295#64)),.num (.au ((b.l.getD 0 0#64)>>>32))]) [((a==1)==false),((c==0)==false),((a==1)==false),((c==0)==false),((c==0)==false),((a==1)==false),((a==2)==true),((a==1)==false),((a==2)==true),((a==2)==true),((a==1)==false),((a==1)==false),((a==1)==false),((a==1)==false),((a==1)==false),((a==1)==false)]:=by show _=_;kernel_rfl
def agT(ad:ue)(a d e co c f sl pl:Int)(b:U 64):k3.cB ⟨a,d,e,co,c,f,sl,pl,b⟩ (some [0]) (bY (yx ad) aQ 37) (bE 17 23232) (k3.out ⟨a,d,e,co,c,f,sl,pl,b⟩) (.obj .bx [.num (.au (b.l.getD 0 0#64&&&4294967295#64)),.num (.au ((b.l.getD 0 0#64)>>>32))]) [(decide (sl<2)==false),((a==1)==false),((c==0)==true),((a==1)==false),((c==0)==true),((c==0)==true),((a==1)==false),((a==2)==true),((a==1)==false),((a==2)==true),((a==2)==true),((a==1)==false),((a==1)==false),((a==1)==false),((a==1)==false),((a==1)==false),((a==1)==false)]:=by show _=_;kernel_rfl
def agU(ad:ue)(a c d co e f sl pl:Int)(b:U 64):k3.cB ⟨a,c,d,co,e,f,sl,pl,b⟩ (some [0]) (bY (yx ad) aQ 37) (bE 13 0) (k3.out ⟨a,c,d,co,e,f,sl,pl,b⟩) (.obj .bx [.num (.au (b.l.getD 0 0#64&&&4294967295#64)),.num (.au ((b.l.getD 0 0#64)>>>32))]) [((a==1)==false),((a==1)==false),((a==1)==false),((a==2)==false),((a==1)==false),((a==2)==false),((a==2)==false),((a==1)==false),((a==1)==false),((a==1)==false),((a==1)==false),((a==1)==false),((a==1)==false)]:=by show _=_;kernel_rfl
def agV:br 37 k3.spec:=by
 refine k3.ok (dm agO (cK _)) agP ?_;rintro⟨a,m,n,co,c,o,sl,pl,b⟩ d;have d:=aZ d;have h3:pl.tmod 128=pl%128:=oz d.2.2.2.2.1;have p:(decide ((0:Int)≤pl.tmod 128)&&decide (pl.tmod 128<((128:Nat):Int)))=true:=by
  rw[dH];exact⟨bl (by omega),bl (by omega)⟩
 have e:∀w,Dk (q6 bw) a m n co c o sl pl b=w→k3.val ⟨a,m,n,co,c,o,sl,pl,b⟩=.obj .bx [.num (.au (w&&&4294967295#64)),.num (.au (w>>>32))]:=fun w h=>by subst h;rfl
 have fin:∀{l:List Bool},(∀j∈l,j=true)→∀j∈l,j=true:=fun h=>h;by_cases h1:a=1
 ·have r:(a==1)=true:=by simp[h1]
  rw[e _ (av (.inl h1))];refine⟨_,_,_,agQ ..,?_⟩;rw[r]
  repeat'(refine ax ?_ ?_)
  all_goals first|exact aV|rfl|exact p|exact bl d
 have f:(a==1)=false:=by simp[h1]
 by_cases h2:a=2
 ·have k:(a==2)=true:=by simp[h2]
  by_cases g:c=0
  ·have q:(c==0)=true:=by simp[g]
   by_cases i:sl<2
   ·rw[e _ (av (.inr ⟨h2,g,i⟩))];refine⟨_,_,_,agR ..,?_⟩;rw[f,k,q,bl i]
    repeat'(refine ax ?_ ?_)
    all_goals first|exact aV|rfl|exact p|exact bl d
   ·rw[e _ (ak fun h=>h.elim h1 fun h=>i h.2.2)];refine⟨_,_,_,agT ..,?_⟩;rw[f,k,q,jQ i]
    repeat'(refine ax ?_ ?_)
    all_goals first|exact aV|rfl
  ·have s:(c==0)=false:=by simp[g]
   rw[e _ (ak fun h=>h.elim h1 fun h=>g h.2.1)];refine⟨_,_,_,agS ..,?_⟩;rw[f,k,s]
   repeat'(refine ax ?_ ?_)
   all_goals first|exact aV|rfl
 ·have t:(a==2)=false:=by simp[h2]
  rw[e _ (ak fun h=>h.elim h1 fun h=>h2 h.1)];refine⟨_,_,_,agU ..,?_⟩;rw[f,t]
  repeat'(refine ax ?_ ?_)
  all_goals first|exact aV|rfl
abbrev k4:=Int→Int→Int→Int→Int→Int→Int→Int→U 64→BitVec 64
def c8:k4:=fun a c d co e f sl pl b=>Dk (q6 bw) a c d co e f sl pl b
def SZ(wd:k4):bT GC:={k3 with val:=fun⟨a,ps,la,co,pa,ln,sl,pl,b⟩=>.obj .bx [.num (.au (wd a ps la co pa ln sl pl b&&&4294967295#64)),.num (.au (wd a ps la co pa ln sl pl b>>>32))]}
def agW:SZ c8=k3:=rfl
def LI(wd:k4):FuncId→Option aA.Spec|37=>some (SZ wd).spec|38=>some kC.spec|_=>none
def agX:∀f a,LI c8 f=some a→br f a:=by
 intro f a h;unfold LI at h;split at h
 ·cases h;rw[agW];exact agV
 ·cases h;exact agI
 ·cases h
def j4(w:BitVec 64)(a b c sl:Int):Int:=pe (w>>>32) a b c sl
def n7(w:BitVec 64)(a co b c sl pl:Int):Int:=Gz (w&&&4294967295#64) (w>>>32) a co b c sl pl
structure GD where
 (kd ps la co pa ln sl pl:Int)(b:U 64)
def LJ(a:List af)(d:List ah):Option GD:=
 match a with
 |[.ref (.ptr 0 (.c 0)),.num (.int .i64 (.s e)),.num (.int .i64 (.s f)),.num (.int .i64 (.s sl)),.num (.int .i64 (.s pl)),.agg g]=>
  match d with
  |[⟨.gen [.num (.int .i64 (.s h)),.num (.int .i64 (.s i)),.num (.int .i64 (.s j)),.num (.int .i64 (.s co)),.atom .aa,.atom .aa],.ro⟩]=>
   (match jZ 128 g with
   |some b=>some ⟨h,i,j,co,e,f,sl,pl,b⟩|none=>none)
  |_=>none
 |_=>none
def jl:bT GD where
 d0:=⟨0,0,0,0,0,0,0,0,0⟩
 read:=LJ
 args:=fun⟨_,_,_,_,a,d,sl,pl,b⟩=>[.P 0,.aq a,.aq d,.aq sl,.aq pl,.agg (dS b 128)]
 heap:=fun⟨e,f,c,co,_,_,_,_,_⟩=>[⟨.gen [.aq e,.aq f,.aq c,.aq co,.aa,.aa],.ro⟩]
 val:=fun⟨e,f,c,co,a,d,sl,pl,b⟩=>(.obj .bx [.aq (j4 (c8 e f c co a d sl pl (dg b)) c a d sl),.aq (n7 (c8 e f c co a d sl pl (dg b)) c co a d sl pl)])
 aS:=fun⟨_,_,c,co,a,d,sl,pl,_⟩=>decide (1≤c∧c≤8∧8≤co∧co≤256∧co.tdiv 4*4=co∧0≤a∧a≤3∧0≤sl∧sl≤3∧0≤d∧d<c∧0≤pl∧pl<co.tdiv 4∧(a=0→sl=0→2≤pl))
def S0(a:List af)(b:List ah)(d:GD)(h:jl.read a b=some d):a=jl.args d∧b=jl.heap d:=by
 replace h:LJ a b=some d:=h;unfold LJ at h;split at h
 case h_2=>cases h
 split at h
 case h_2=>cases h
 split at h
 case h_2=>cases h
 rename_i c;obtain⟨rfl,_⟩:=kW c;cases h;exact⟨rfl,rfl⟩
def agY(wd:k4)(e f a co c d sl pl:Int)(b:U 64):jl.cB ⟨e,f,a,co,c,d,sl,pl,b⟩ (some [0]) (bY (LI wd) aQ 28) [] (jl.out ⟨e,f,a,co,c,d,sl,pl,b⟩) (.obj .bx [.aq (j4 (wd e f a co c d sl pl (dg b)) a c d sl),.aq (n7 (wd e f a co c d sl pl (dg b)) a co c d sl pl)]) [decide ((1≤a∧(a≤8∧(8≤co∧(co≤256∧(((Int.tdiv co 4)*4)=co∧(0≤c∧(c≤3∧(0≤sl∧(sl≤3∧(0≤d∧(d<a∧(0≤pl∧(pl<(Int.tdiv co 4)∧((Z.s c).v=0→(Z.s sl).v=0→2≤(Z.s pl).v))))))))))))))),decide ((0≤a∧(a≤8∧(0≤co∧(co≤256∧(0≤pl∧pl≤256))))))]:=by show _=_;kernel_rfl
def agZ:br 28 jl.spec:=by
 refine jl.ok (dm agX (cK _)) S0 ?_;rintro⟨c,d,e,co,f,g,sl,pl,b⟩ a;have a:=aZ a;refine⟨_,_,_,agY c8 c d e co f g sl pl b,?_⟩;have h:co.tdiv 4=co/4:=pK (by omega)
 repeat'(refine ax ?_ ?_)
 all_goals first|exact aV|exact bl a|rfl|exact bl (by omega)
end
end Go.Proofs.YtcminalaicidiaaGreatDoor
namespace Go.aA
section
variable [aR][aF]
def Dl(i:Nat)(a:Spec):Spec:=fun args b c=>
 match b with
 |[]=>none|h::r=>
  match h with
  |⟨d,m⟩=>
   match m with
   |.ro=>
    match d with
    |.gen l=>
     match BR a args ⟨⟨.gen (fe .aa i l),.ro⟩::r,bJ,c,[]⟩with
     |none=>none|some (v,S)=>
      match S.H with
      |[]=>none|k::e=>
       match k.mode with
       |.ro=>some ⟨v,h::e,S.dec,S.cond⟩|_=>none
    |_=>none
   |_=>none
def je.Dl{β:aE}{l:List af}{i:Nat}{b:Loc}{w:World}(h:je β (.gen l) b w):je β (.gen (fe .aa i l)) b w:=by
 rw[iO];refine⟨h.1,by show(l.set i .aa).length≤b.room;rw[lN];exact h.2.1,fun j e a=>?_⟩;have a:(l.set i .aa)[j]? =some e:=a;have c:j<l.length:=by have:=(dX.1 a).1;rwa[lN]at this
 obtain⟨v,h1,h2,h3⟩:=h.2.2 j l[j] (bW c);refine⟨v,h1,?_,h3⟩;by_cases d:i=j
 ·subst d;rw[pL c]at a;injection a with a;subst a;exact .aa _
 ·rw[mw d,bW c]at a;injection a with a;subst a;exact h2
def ag0{P:Program}{G:Nat→Option (List af)}{f:FuncId}{L:Spec}{i:Nat}(h:dy P G f L):dy P G f (Dl i L):=by
 intro args au av r s;unfold Dl at s
 repeat' split at s
 all_goals(try(cases s;done))
 rename_i X aw d m l _ v S t _ k M y _ Y;simp only[aB]at s;subst s;obtain⟨N,Z⟩:=CU h _ _ _ _ t;have O:S.H[0]? =some k:=by rw[y];rfl
 have aa:k=⟨.gen (fe .aa i l),.ro⟩:=by
  have:=N.ro 0 k (by rw[cg];exact O) Y;rw[cg]at this;have this:some (ah.mk (.gen (fe .aa i l)) .ro)=some k:=this;injection this with this;exact this.symm
 refine⟨fun b E F Q=>?_,fun ab β w vs ad z=>?_⟩
 ·cases b with
  |zero=>exact⟨_,rfl,rfl⟩|succ b=>
   have F:M[b]? =some E:=F;have:=N.ro (b+1) E (by rw[cg,y];exact F) Q;rw[cg]at this;exact⟨E,this,Q⟩
 ·have p:(ah.mk (.gen l) .ro).mode.alive:=by intro h;cases h
  have ae:(fe af.aa i l).length=l.length:=by rw[iO,lN]
  have ag:(Data.gen (fe af.aa i l)).len=(Data.gen l).len:=ae;obtain⟨R,T⟩:=z.swap (a:=0) (d':=.gen (fe .aa i l)) (m:=.ro) rfl p (fun n=>by
   rcases z.blk 0 _ rfl p with⟨A,o,_⟩|⟨g,_⟩
   ·rw[n]at o;cases o
   ·rw[ag];exact g) (fun A o x=>je.Dl x)
  obtain⟨ai,aj⟩:=Z ab β w vs ad R;refine⟨ai,aj.mono ?_⟩;rintro B w' ⟨u,ak,rfl,al,am,e⟩;refine⟨u,ak,rfl,al,?_⟩;have I:=am.swap (a:=0) (d:=.gen (fe .aa i l)) (d':=.gen l) (m:=.ro) (by rw[O,aa]) p (fun n=>by
   rcases z.blk 0 _ rfl p with⟨A,o,_⟩|⟨g,_⟩
   ·rw[e.le _ _ o]at n;cases n
   ·exact g) (fun A o x=>by
   rcases z.blk 0 _ rfl p with⟨C,U,D⟩|⟨g,n⟩
   ·have B:C=A:=by have:=e.le _ _ U;rw[o]at this;injection this with this;exact this.symm
    subst B;have D:je β (.gen l) C w:=D;have an:¬Own β (⟨.gen (fe .aa i l),.ro⟩::X) C.c:=by
     rintro⟨b,V,ao,q,W,ap,dn⟩;refine R.dO b 0 V _ ao C (fun B=>?_) q rfl W p ap U dn;subst B;have q:some (ah.mk (.gen (fe .aa i l)) .ro)=some V:=q;injection q with q;subst q;cases W
    exact je.mono e.le D e.size (e.kept _ D.1 an)
   ·refine⟨x.1,?_,fun j aq J=>?_⟩
    ·have g:l.length=0:=g
     show l.length≤_;omega
    ·have g:l.length=0:=g;have J:l[j]? =some aq:=J;have:=(dX.1 J).1;omega)
  have ar:S.H.set 0 ⟨.gen l,.ro⟩=⟨.gen l,.ro⟩::M:=by rw[y];rfl
  rw[ar]at I;refine⟨I.1,⟨e.le,?_,e.os,e.tape,e.output,e.size,fun c t n=>e.kept c t fun K=>n ((T c).1 K),fun c t K=>(T c).1 (e.own c t ((I.2 c).1 K)),fun b x=>e.old b x⟩⟩;have:=e.len;rw[y]at this;exact this
end
end Go.aA
namespace Go.Proofs.YtcminalaicidiaaGreatDoor
section
open Go.aA
variable [aR][aF][bq]
def GF:Nat→Nat→(Nat→Nat)→List af|0,_,_=>[]|n+1,i,a=>.ref (.sm (i+2) (.s (a i)) 128)::GF n (i+1) a
def yy:Nat→Nat→(Nat→U 64)→List ah|0,_,_=>[]|n+1,i,r=>⟨.bt (r i),.own⟩::yy n (i+1) r
def Dm:Nat→Nat→List af→Option (List Nat)
 |0,_,l=>match l with|[]=>some []|_::_=>none
 |n+1,i,l=>
  match l with
  |[]=>none|a::d=>
   match a with
   |.ref q=>
    match q with
    |.sm b l e=>
     match Nat.beq b (i+2)&&Nat.beq e 128 with
     |true=>
      match l with
      |.s m=>
       match Dm n (i+1) d with
       |some f=>some (m::f)|none=>none
      |.c _=>none
     |false=>none
    |_=>none
   |_=>none
def AP:Nat→List ah→Option (List (U 64)×List ah)
 |0,a=>some ([],a)|n+1,a=>
  match a with
  |[]=>none|k::a=>
   match k with
   |⟨d,m⟩=>
    match m with
    |.own=>
     match d with
     |.bt X=>
      match AP n a with
      |some (b,a)=>some (X::b,a)|none=>none
     |_=>none
    |_=>none
def S1:∀{n i:Nat} {l:List af} {c:List Nat} {a:Nat→Nat},Dm n i l=some c→(∀j,a (i+j)=c.getD j 0)→l=GF n i a
 |0,i,l,c,a,h,_=>by
  unfold Dm at h;split at h
  ·rfl
  ·cases h
 |n+1,i,l,c,a,h,d=>by
  unfold Dm at h
  repeat' split at h
  all_goals(try(cases h;done))
  rename_i b f _ e _ m _ o g;cases h;rw[dH]at e;obtain⟨h1,h2⟩:=e;have h1:b=i+2:=by simpa using h1
  have h2:f=128:=by simpa using h2
  subst h1 h2;have k:a i=m:=d 0
  show _=.ref (.sm (i+2) (.s (a i)) 128)::GF n (i+1) a;rw[k,←S1 g fun j=>by rw[iF,Bo 1 j];exact d (j+1)]
def LK:∀{n i:Nat} {a b:List ah} {c:List (U 64)} {r:Nat→U 64},AP n a=some (c,b)→(∀j,r (i+j)=c.getD j (U.zero 64 0))→a=yy n i r++b
 |0,i,a,b,c,r,h,_=>by
  simp only[AP,aB,aN]at h;exact h.2
 |n+1,i,a,b,c,r,h,d=>by
  unfold AP at h
  repeat' split at h
  all_goals(try(cases h;done))
  rename_i k _ _ _ _ _ X _ l e f;simp only[aB,aN]at h;obtain⟨rfl,rfl⟩:=h;have g:r i=X:=d 0
  show _=⟨.bt (r i),.own⟩::(yy n (i+1) r++e);rw[g,←LK f fun j=>by rw[iF,Bo 1 j];exact d (j+1)]
def ag1(p:Nat)(a b co:Int):ah:=⟨.gen [.num (.int .i64 (.s a)),.num (.int .i64 (.s b)),.num (.int .i64 (.c (p:Int))),.num (.int .i64 (.s co)),.atom .aa,.ref (.sl 1 (.c 0) (.c p) none)],.ro⟩
def pg(p:Nat)(a b co:Int)(c:Nat→Nat)(r:Nat→U 64)(T:List ah):List ah:=ag1 p a b co::⟨.gen (GF p 0 c),.ro⟩::(yy p 0 r++T)
def Dn(p:Nat)(a:List ah):Option ((Int×Int×Int)×(Nat→Nat)×(Nat→U 64)×List ah):=
 match a with
 |⟨.gen [.num (.int .i64 (.s b)),.num (.int .i64 (.s d)),.num (.int .i64 (.c e)),.num (.int .i64 (.s co)),.atom .aa,.ref (.sl 1 (.c 0) (.c f) none)],.ro⟩::⟨.gen l,.ro⟩::a=>
  match kM e (p:Int)&&Nat.beq f p with
  |true=>
   match Dm p 0 l with
   |some g=>
    match AP p a with
    |some (h,a)=>some ((b,d,co),(fun j=>g.getD j 0),(fun j=>h.getD j (U.zero 64 0)),a)|none=>none
   |none=>none
  |false=>none
 |_=>none
def LL{p:Nat}{a T:List ah}{b c co:Int}{d:Nat→Nat}{r:Nat→U 64}(h:Dn p a=some ((b,c,co),d,r,T)):a=pg p b c co d r T:=by
 unfold Dn at h;split at h
 case h_2=>cases h
 split at h
 case h_2=>cases h
 rename_i e;rw[dH,nu]at e;obtain⟨h1,h2⟩:=e;simp only[eT]at h1;have h2:=rO h2;subst h1 h2;split at h
 case h_2=>cases h
 rename_i i f;split at h
 case h_2=>cases h
 rename_i k l g;simp only[aB,aN]at h;obtain⟨⟨rfl,rfl,rfl⟩,rfl,rfl,rfl⟩:=h;unfold pg;rw[←S1 f fun j=>by rw[cM],←LK g fun j=>by rw[cM]];rfl
def ao8(p:Nat)(T:List ah):List ah:=pg p 0 0 0 (fun _=>0) (fun _=>U.zero 64 0) T
def kD:List (Nat×Nat):=(List.range 8).flatMap fun p=>(List.range (p+1)).map fun l=>(p+1,l)
def GG{p l:Nat}(a:p≤8)(b:l<p):(p,l)∈kD:=by
 unfold kD;simp only[WE,zc,oy];exact⟨p-1,by omega,l,by omega,by congr 1;omega⟩
def gO{b β:Type}{l:List b}{f g:b→β}(h:l.map f=l.map g){a:b}(c:a∈l):f a=g a:=List.map_inj_left.1 h a c
def fq:af:=.atom .aa
def dK(c:Int):Nat:=0+c.toNat*128
structure n8 where
 (kd ps co pa sl az pl ko:Int)(nn:Nat→Nat)(r:Nat→U 64)(Z:U 64)(i:Int)
def sI(p a:Nat)(d:n8):aI×List ah:=
 match d with
 |⟨b,e,co,f,sl,g,pl,h,j,r,Z,i⟩=>(⟨[.P 0,.aq f,.J (a:Int),.aq sl,fq,fq,fq,fq,.aq g,.aq pl,.aq h,fq,fq,fq,.ref (.ptr (p+3) (.c 0)),fq],[⟨82,.aq i⟩]⟩,pg p b e co j r [cp,⟨.bt Z,.own⟩])
def AQ(X:U 64)(a:Int)(Z:U 64)(i:Int):U 64:=Z.set (0+i.toNat*1) (Z.l.getD (0+i.toNat*1) 0#64^^^X.l.getD (dK a+i.toNat*1) 0#64)
def yz(b:Nat)(d:n8):n8:=
 match d with
 |⟨c,e,co,f,sl,g,pl,a,h,r,Z,i⟩=>⟨c,e,co,f,sl,g,pl,a,h,r,AQ (r b) a Z i,i+1⟩
def LM(p a:Nat)(d:aI)(e:List ah):Option n8:=
 match d with
 |⟨[.ref (.ptr 0 (.c 0)),.num (.int .i64 (.s f)),.num (.int .i64 (.c g)),.num (.int .i64 (.s sl)),.atom .aa,.atom .aa,.atom .aa,.atom .aa,.num (.int .i64 (.s h)),.num (.int .i64 (.s pl)),.num (.int .i64 (.s j)),.atom .aa,.atom .aa,.atom .aa,.ref (.ptr b (.c 0)),.atom .aa],[⟨82,.num (.int .i64 (.s i))⟩]⟩=>
  match kM g (a:Int)&&Nat.beq b (p+3)with
  |true=>
   match Dn p e with
   |some ((k,l,co),m,r,T)=>
    match T with
    |[⟨.gen [],.bn⟩,⟨.bt Z,.own⟩]=>some ⟨k,l,co,f,sl,h,pl,j,m,r,Z,i⟩|_=>none
   |none=>none
  |false=>none
 |_=>none
def n9(p a:Nat):eN n8 where
 d0:=⟨0,0,0,0,0,0,0,0,fun _=>0,fun _=>0,0,0⟩
 read:=LM p a
 ay:=sI p a
 next:=yz a
 rem:=fun⟨_,_,_,_,_,_,_,_,_,_,_,i⟩=>(128-i).toNat
 aS:=fun⟨_,_,_,_,_,_,_,b,c,r,Z,i⟩=>decide (0≤i∧i≤128∧0≤b∧b<c a∧dK b+128≤(r a).n∧Z.n=128)
 out:=.exit 2
def oa(c:Int)(n:Nat):Bool:=decide ((0:Int)≤c)&&decide (c<(n:Int))
def S2(a:Nat)(d:n8):List Bool:=[bV (d.i+1),decide (0+d.i.toNat*1<d.Z.n),oa d.i 128,decide (dK d.ko+d.i.toNat*1<(d.r a).n),oa d.i 128,oa d.ko (d.nn a),decide (0+d.i.toNat*1<d.Z.n),oa d.i 128,decide (d.i<128)==true]
def ag2(a b co c sl d pl e:Int)(f:Nat→Nat)(r:Nat→U 64)(Z:U 64)(i:Int):
 kD.map (fun q=>eg (q.1+4) (some (List.range (q.1+4))) (sI q.1 q.2 (yz q.2 ⟨a,b,co,c,sl,d,pl,e,f,r,Z,i⟩)) (bZ cr aQ 21 1 (sI q.1 q.2 ⟨a,b,co,c,sl,d,pl,e,f,r,Z,i⟩).1 ⟨(sI q.1 q.2 ⟨a,b,co,c,sl,d,pl,e,f,r,Z,i⟩).2,bJ,[true],[]⟩))=
  kD.map fun q=>some (.normal,sI q.1 q.2 (yz q.2 ⟨a,b,co,c,sl,d,pl,e,f,r,Z,i⟩),S2 q.2 ⟨a,b,co,c,sl,d,pl,e,f,r,Z,i⟩):=by kernel_rfl
def ag3(a b co c sl d pl e:Int)(f:Nat→Nat)(r:Nat→U 64)(Z:U 64)(i:Int):
 kD.map (fun q=>eg (q.1+4) none (sI q.1 q.2 ⟨a,b,co,c,sl,d,pl,e,f,r,Z,i⟩) (bZ cr aQ 21 1 (sI q.1 q.2 ⟨a,b,co,c,sl,d,pl,e,f,r,Z,i⟩).1 ⟨(sI q.1 q.2 ⟨a,b,co,c,sl,d,pl,e,f,r,Z,i⟩).2,bJ,[false],[]⟩))=
  kD.map fun q=>some (.exit 2,sI q.1 q.2 ⟨a,b,co,c,sl,d,pl,e,f,r,Z,i⟩,[decide (i<128)==false]):=by kernel_rfl
def LN:∀n i (r:Nat→U 64),(yy n i r).length=n|0,_,_=>rfl|n+1,i,r=>iZ (·+1) (LN n (i+1) r)
def LO(p:Nat)(a b co:Int)(c:Nat→Nat)(r:Nat→U 64)(T:List ah):(pg p a b co c r T).length=p+T.length+2:=by
 unfold pg;rw[iY,iY,fA,LN]
def GH(p a:Nat)(d:n8):(sI p a d).2.length=p+4:=LO ..
def ag4(p a:Nat)(b:aI)(c:List ah)(d:n8)(h:(n9 p a).read b c=some d):(b,c)=(n9 p a).ay d:=by
 replace h:LM p a b c=some d:=h;unfold LM at h;split at h
 case h_2=>cases h
 split at h
 case h_2=>cases h
 rename_i e;rw[dH,nu]at e;obtain⟨h1,h2⟩:=e;simp only[eT]at h1;have h2:=rO h2;subst h1 h2;split at h
 case h_2=>cases h
 rename_i f;split at h
 case h_2=>cases h
 cases h;rw[LL f];rfl
def yA{c:Int}{n:Nat}(h:0≤c∧c<n):oa c n=true:=by
 unfold oa;rw[dH];exact⟨bl h.1,bl h.2⟩
def S3{p a:Nat}(v:p≤8)(w:a<p):eH Tryz.prog bB (aj 21) (bN Tryz.prog 21) (bg Tryz.prog 21 1) (n9 p a).T.told:=by
 have t:=GG v w;refine(n9 p a).j0 (iw fL (cK _) 21 1 J3 (by rw[show(cH Tryz.prog 21).length=2 by kernel_rfl];omega)) (by intro k o;have o:k∈([]:List ah):=o;cases o) (by intro h;cases h) (ag4 p a) ?_ ?_
 ·rintro⟨d,e,co,f,sl,g,pl,b,j,r,Z,i⟩ u m l;have m:=aZ m;have l:(128-i).toNat=u+1:=l;obtain⟨x,h1,h2,h3,h4,y⟩:=m;have q:=gO (ag2 d e co f sl g pl b j r Z i) t;refine⟨⟨[true],some (List.range (p+4)),S2 a ⟨d,e,co,f,sl,g,pl,b,j,r,Z,i⟩,?_,?_⟩,?_,?_,(GH ..).trans (GH ..).symm⟩
  ·have s:((n9 p a).ay ⟨d,e,co,f,sl,g,pl,b,j,r,Z,i⟩).2.length-(n9 p a).cG.length=p+4:=(gz _).trans (GH p a _);rw[s];exact q
  ·have hi:=yA (c:=i) (n:=128) ⟨x,by omega⟩;exact ax (hU (by show _≤i+1∧i+1≤_;omega)) (ax (bl (by show 0+i.toNat*1<Z.n;omega)) (ax hi (ax (bl (by show dK b+i.toNat*1<(r a).n;omega)) (ax hi (ax (yA ⟨h2,h3⟩) (ax (bl (by show 0+i.toNat*1<Z.n;omega)) (ax hi (ax (by rw[eT];exact bl (by show i<128;omega)) aV))))))))
  ·refine bl ⟨?_,?_,h2,h3,h4,y⟩<;>omega
  ·show(128-(i+1)).toNat=u;omega
 ·rintro⟨d,e,co,f,sl,g,pl,b,j,r,Z,i⟩ m l;have l:(128-i).toNat=0:=l;have q:=gO (ag3 d e co f sl g pl b j r Z i) t;refine⟨[false],none,[decide (i<128)==false],?_,?_⟩
  ·have s:((n9 p a).ay ⟨d,e,co,f,sl,g,pl,b,j,r,Z,i⟩).2.length-(n9 p a).cG.length=p+4:=(gz _).trans (GH p a _);rw[s];exact q
  ·exact ax (by rw[eT];exact jQ (by omega)) aV
def sJ(p a:Nat):FuncId→Nat→Option cP|21,11=>some (n9 p a).T.told|_,_=>none
def ag5{p a:Nat}(e:p≤8)(g:a<p)(spec:FuncId→Option aA.Spec):c6 (de spec (sJ p a)) bB:=by
 refine c6.of fun f=>?_;by_cases d:f=21
 ·subst d;refine .inr ⟨by kernel_rfl,fun i hi h b=>?_⟩;have hi:i<(cH Tryz.prog 21).length:=hi;rw[show(cH Tryz.prog 21).length=2 by kernel_rfl]at hi;have j:i=0∨i=1:=by omega
  rcases j with rfl|rfl
  ·have c:(bX (bg Tryz.prog 21 0)).bind (sJ p a 21)=none:=by kernel_rfl
   have b:(bX (bg Tryz.prog 21 0)).bind (sJ p a 21)=some h:=b;rw[c]at b;cases b
  ·have c:(bX (bg Tryz.prog 21 1)).bind (sJ p a 21)=some (n9 p a).T.told:=by kernel_rfl
   obtain rfl:=dV (c.symm.trans b);exact(S3 e g).run
 ·refine .inl fun r=>?_
  show sJ p a f r=none;unfold sJ;split
  ·exact absurd rfl d
  ·rfl
def GI(wd:k4)(g:Nat):bT GD:={jl with
 val:=fun⟨e,f,a,co,c,d,sl,pl,b⟩=>.obj .bx [.J (g:Int),.aq (n7 (wd e f a co c d sl pl b) a co c d sl pl)]
 aS:=fun⟨e,f,a,co,c,d,sl,pl,b⟩=>(jl.aS ⟨e,f,a,co,c,d,sl,pl,b⟩&&Nat.beq b.n 128)&&decide (j4 (wd e f a co c d sl pl b) a c d sl=g)}
def GJ(wd:k4):Nat→Nat→aA.Spec
 |0,_=>fun _ _ _=>none|n+1,c=>fun args d a=>
  match a with
  |[]=>none|b::a=>
   match b with
   |true=>Dl 5 (GI wd c).spec args d a|false=>GJ wd n (c+1) args d a
def ag6{β:aE}{z:Int}{b:af}{u:Value}(h:aC β (.obj .bx [.num (.int .i64 (.s z)),b]) u):aC β (.obj .bx [.num (.int .i64 (.c z)),b]) u:=by
 cases h with
 |bx j vs g d=>
  refine .bx _ vs (by simpa using g) fun i e v a f=>?_;cases i with
  |zero=>
   have a:some (af.num (.int .i64 (.c z)))=some e:=a;injection a with a;subst a;rw[(d 0 _ v rfl f).num_inv];exact .num (.int .i64 (.c z))
  |succ i=>exact d (i+1) e v a f
def ag7(j:Nat):br 28 (GI c8 j).spec:=by
 refine(GI c8 j).wz (show∀a k d,jl.read a k=some d→a=jl.args d∧k=jl.heap d from S0) fun d i β w vs p r B=>?_;obtain⟨g,h,c,co,e,f,sl,pl,b⟩:=d;have i:((jl.aS ⟨g,h,c,co,e,f,sl,pl,b⟩&&Nat.beq b.n 128)&&decide (j4 (c8 g h c co e f sl pl b) c e f sl=j))=true:=i;rw[dH,dH,jM]at i;have l:dg b=b:=o7 (rO i.1.2);obtain⟨t,v⟩:=(agZ (jl.args ⟨g,h,c,co,e,f,sl,pl,b⟩) (jl.heap ⟨g,h,c,co,e,f,sl,pl,b⟩) [] _ (show jl.spec (jl.args ⟨g,h,c,co,e,f,sl,pl,b⟩) (jl.heap ⟨g,h,c,co,e,f,sl,pl,b⟩) []=some ⟨jl.val ⟨g,h,c,co,e,f,sl,pl,dg b⟩,jl.heap ⟨g,h,c,co,e,f,sl,pl,b⟩,[],[jl.aS ⟨g,h,c,co,e,f,sl,pl,b⟩]⟩ by kernel_rfl)).2 (fun C x=>by rw[tc.1 x];exact i.1.1) β w vs p r;refine⟨t,v.mono ?_⟩;rintro D w' ⟨u,m,rfl,y,z,A⟩;refine⟨u,m,rfl,?_,z,A.q (aX _)⟩;have o:aC m (.obj .bx [.num (.int .i64 (.s (j4 (c8 g h c co e f sl pl (dg (dg b))) c e f sl))),.num (.int .i64 (.s (n7 (c8 g h c co e f sl pl (dg (dg b))) c co e f sl pl)))]) u:=y;rw[l,l,i.2]at o;exact ag6 o
def S4:∀n b,br 28 (GJ c8 n b)
 |0,_=>fun args c d r a=>by cases a
 |n+1,b=>fun args c d r a=>by
  unfold GJ at a;split at a
  ·cases a
  ·split at a
   ·exact ag0 (ag7 b) _ _ _ _ a
   ·exact S4 n (b+1) _ _ _ _ a
def yB(Q:U 64→U 64→U 64)(wd:k4):FuncId→Option aA.Spec|28=>some (GJ wd 8 0)|29=>some (GA Q).spec|_=>none
def S5:∀f a,yB bw c8 f=some a→br f a:=by
 intro f a h;unfold yB at h;split at h
 ·cases h;exact S4 8 0
 ·cases h;rw[SX];exact Se
 ·cases h
def upd(r:Nat→U 64)(l:Nat)(X:U 64):Nat→U 64:=fun i=>match Nat.beq i l with|true=>X|false=>r i
structure ob where
 (kd ps co pa sl az pl:Int)(nn:Nat→Nat)(r:Nat→U 64)
def k5(p a:Nat)(d:ob):aI×List ah:=
 match d with
 |⟨kd,ps,co,pa,sl,az,pl,nn,r⟩=>(⟨[.P 0,.aq pa,.J (a:Int),.aq sl,fq,fq,fq,fq,.aq az,.aq pl,fq,fq,fq,fq,fq,fq],[]⟩,pg p kd ps co nn r [])
def q7(X:U 64)(c:Int)(a:U 64):U 64:=X.over (dK c) (dg a)
def cJ(sl az pl:Int):Int:=sl*az+pl
def wC(co a:Int):Int:=(a+co-1).tmod co
def lF(X:U 64)(co a:Int):U 64:=rowAt X (dK (wC co a))
def Dp(wd:k4)(p a:Nat)(kd ps co pa sl az pl:Int)(r:Nat→U 64):Int:=n7 (wd kd ps p co pa a sl pl (lF (r a) co (cJ sl az pl))) p co pa a sl pl
def AR(Q:U 64→U 64→U 64)(wd:k4)(p a b:Nat)(kd ps co pa sl az pl:Int)(r:Nat→U 64):U 64:=
 Q (lF (r a) co (cJ sl az pl)) (rowAt (r b) (dK (Dp wd p a kd ps co pa sl az pl r)))
def Dq(c:Int)(X:U 64):Bool:=decide (dK c+128≤X.n)
def yC(co pa sl az pl:Int)(b c:Bool):List Bool:=(if b then [decide (cJ sl az pl<2)==c]else [])++[(pa==0)==b,(pa==0)==b,(pa==0)==b,bV (cJ sl az pl),bV (sl*az),decide (pl<az)==true]
def GK(wd:k4)(p a b:Nat)(kd ps co pa sl az pl:Int)(nn:Nat→Nat)(r:Nat→U 64):List Bool:=
 [true,Dq (Dp wd p a kd ps co pa sl az pl r) (r b),oa (Dp wd p a kd ps co pa sl az pl r) (nn b),(GI wd b).aS ⟨kd,ps,p,co,pa,a,sl,pl,lF (r a) co (cJ sl az pl)⟩,Dq (wC co (cJ sl az pl)) (r a),oa (wC co (cJ sl az pl)) (nn a),decide (co≠0),bV (cJ sl az pl+co-1),bV (cJ sl az pl+co)]
section
variable(Q:U 64→U 64→U 64)(wd:k4)(kd ps co pa sl az pl:Int)(nn:Nat→Nat)(r:Nat→U 64)
def ag8:kD.map (fun q=>eg (q.1+2) (some (List.range (q.1+2))) (k5 q.1 q.2 ⟨kd,ps,co,pa,sl,az,pl+1,nn,r⟩) (bZ (yB Q wd) (sJ q.1 q.2) 21 0 (k5 q.1 q.2 ⟨kd,ps,co,pa,sl,az,pl,nn,r⟩).1 ⟨(k5 q.1 q.2 ⟨kd,ps,co,pa,sl,az,pl,nn,r⟩).2,bJ,(bE 5 31),[]⟩))=
 kD.map fun q=>some (.normal,k5 q.1 q.2 ⟨kd,ps,co,pa,sl,az,pl+1,nn,r⟩,bV (pl+1)::yC co pa sl az pl true true):=by kernel_rfl
def fu(p:Nat):List (Nat×Nat×Nat):=(List.range p).flatMap fun l=>(List.range p).map fun a=>(p,l,a)
def S6{p l a:Nat}(b:l<p)(c:a<p):(p,l,a)∈fu p:=by
 unfold fu;simp only[WE,zc,oy];exact⟨l,b,a,c,rfl⟩
def AS(p a b:Nat):ob:=⟨kd,ps,co,pa,sl,az,pl+1,nn,upd r a (q7 (r a) (cJ sl az pl) (AR Q wd p a b kd ps co pa sl az pl r))⟩
def sK(q:Nat×Nat×Nat):Option (dJ×(aI×List ah)×List Bool):=eg (q.1+2) (some (List.range (q.1+2))) (k5 q.1 q.2.1 (AS Q wd kd ps co pa sl az pl nn r q.1 q.2.1 q.2.2)) (bZ (yB Q wd) (sJ q.1 q.2.1) 21 0 (k5 q.1 q.2.1 ⟨kd,ps,co,pa,sl,az,pl,nn,r⟩).1 ⟨(k5 q.1 q.2.1 ⟨kd,ps,co,pa,sl,az,pl,nn,r⟩).2,bJ,(bE 5 15)++(List.replicate q.2.2 false++[true,false]),[]⟩)
def sL(q:Nat×Nat×Nat):Option (dJ×(aI×List ah)×List Bool):=some (.normal,k5 q.1 q.2.1 (AS Q wd kd ps co pa sl az pl nn r q.1 q.2.1 q.2.2),[bV (pl+1),Dq (cJ sl az pl) (r q.2.1),oa (cJ sl az pl) (nn q.2.1),decide ((0:Int)<pa)==false]++(GK wd q.1 q.2.1 q.2.2 kd ps co pa sl az pl nn r++yC co pa sl az pl true false))
def ag9:(fu 1).map (sK Q wd kd ps co pa sl az pl nn r)=(fu 1).map (sL Q wd kd ps co pa sl az pl nn r):=by kernel_rfl
def aha:(fu 2).map (sK Q wd kd ps co pa sl az pl nn r)=(fu 2).map (sL Q wd kd ps co pa sl az pl nn r):=by kernel_rfl
def ahb:(fu 3).map (sK Q wd kd ps co pa sl az pl nn r)=(fu 3).map (sL Q wd kd ps co pa sl az pl nn r):=by kernel_rfl
def ahc:(fu 4).map (sK Q wd kd ps co pa sl az pl nn r)=(fu 4).map (sL Q wd kd ps co pa sl az pl nn r):=by kernel_rfl
def ahd:(fu 5).map (sK Q wd kd ps co pa sl az pl nn r)=(fu 5).map (sL Q wd kd ps co pa sl az pl nn r):=by kernel_rfl
def ahe:(fu 6).map (sK Q wd kd ps co pa sl az pl nn r)=(fu 6).map (sL Q wd kd ps co pa sl az pl nn r):=by kernel_rfl
def ahf:(fu 7).map (sK Q wd kd ps co pa sl az pl nn r)=(fu 7).map (sL Q wd kd ps co pa sl az pl nn r):=by kernel_rfl
def ahg:(fu 8).map (sK Q wd kd ps co pa sl az pl nn r)=(fu 8).map (sL Q wd kd ps co pa sl az pl nn r):=by kernel_rfl
end
def Dr(b:Nat)(a:n8):ob:=⟨a.kd,a.ps,a.co,a.pa,a.sl,a.az,a.pl+1,a.nn,upd a.r b (q7 (a.r b) a.ko a.Z)⟩
def yD(V:U 64→U 64→U 64)(wd:k4)(p a b:Nat)(R S co P sl Q pl:Int)(T:Nat→Nat)(r:Nat→U 64):n8:=⟨R,S,co,P,sl,Q,pl,cJ sl Q pl,T,r,dg (AR V wd p a b R S co P sl Q pl r),0⟩
def pi(V:U 64→U 64→U 64)(wd:k4)(p a b:Nat)(R S co P sl Q pl:Int)(T:Nat→Nat)(r:Nat→U 64):n8:=iter (yz a) (128-(0:Int)).toNat (yD V wd p a b R S co P sl Q pl T r)
section
variable(V:U 64→U 64→U 64)(wd:k4)(R S co P sl Q pl:Int)(T:Nat→Nat)(r:Nat→U 64)
def q8(q:Nat×Nat×Nat):Option (dJ×(aI×List ah)×List Bool):=eg (q.1+2) (some (List.range (q.1+2))) (k5 q.1 q.2.1 (Dr q.2.1 (pi V wd q.1 q.2.1 q.2.2 R S co P sl Q pl T r))) (bZ (yB V wd) (sJ q.1 q.2.1) 21 0 (k5 q.1 q.2.1 ⟨R,S,co,P,sl,Q,pl,T,r⟩).1 ⟨(k5 q.1 q.2.1 ⟨R,S,co,P,sl,Q,pl,T,r⟩).2,bJ,(bE 4 1)++(List.replicate q.2.2 false++[true,true]),[]⟩)
def S7(b:Nat)(a:n8):List Bool:=[bV (a.pl+1),Dq a.ko (a.r b),oa a.ko (a.nn b),decide (0+128≤a.Z.n)]
def q9(q:Nat×Nat×Nat):Option (dJ×(aI×List ah)×List Bool):=some (.normal,k5 q.1 q.2.1 (Dr q.2.1 (pi V wd q.1 q.2.1 q.2.2 R S co P sl Q pl T r)),S7 q.2.1 (pi V wd q.1 q.2.1 q.2.2 R S co P sl Q pl T r)++([(n9 q.1 q.2.1).aS (yD V wd q.1 q.2.1 q.2.2 R S co P sl Q pl T r),decide ((0:Int)<P)==true]++(GK wd q.1 q.2.1 q.2.2 R S co P sl Q pl T r++yC co P sl Q pl false false)))
def ahh:(fu 1).map (q8 V wd R S co P sl Q pl T r)=(fu 1).map (q9 V wd R S co P sl Q pl T r):=by kernel_rfl
def ahi:(fu 2).map (q8 V wd R S co P sl Q pl T r)=(fu 2).map (q9 V wd R S co P sl Q pl T r):=by kernel_rfl
def ahj:(fu 3).map (q8 V wd R S co P sl Q pl T r)=(fu 3).map (q9 V wd R S co P sl Q pl T r):=by kernel_rfl
def ahk:(fu 4).map (q8 V wd R S co P sl Q pl T r)=(fu 4).map (q9 V wd R S co P sl Q pl T r):=by kernel_rfl
def ahl:(fu 5).map (q8 V wd R S co P sl Q pl T r)=(fu 5).map (q9 V wd R S co P sl Q pl T r):=by kernel_rfl
def ahm:(fu 6).map (q8 V wd R S co P sl Q pl T r)=(fu 6).map (q9 V wd R S co P sl Q pl T r):=by kernel_rfl
def ahn:(fu 7).map (q8 V wd R S co P sl Q pl T r)=(fu 7).map (q9 V wd R S co P sl Q pl T r):=by kernel_rfl
def aho:(fu 8).map (q8 V wd R S co P sl Q pl T r)=(fu 8).map (q9 V wd R S co P sl Q pl T r):=by kernel_rfl
end
end
section
open Go.aA
variable [aR][aF][bq]
variable{la pa ln sl:Int}{w:BitVec 64}{co pl:Int}{p l P:Nat}
def S8(h:1≤la∧la≤8)(a:0≤ln∧ln<la):0≤j4 w la pa ln sl∧j4 w la pa ln sl<la:=by
 unfold j4 pe;split
 ·exact a
 ·have:(w>>>32%BitVec.ofInt 64 la:BitVec 64).toNat<la.toNat:=by rw[ow,LC h];exact qu _ (by omega)
  omega
def S9{y:BitVec 64}(h2:8≤co∧co≤256∧co.tdiv 4*4=co)(h3:0≤pa)(h4:0≤sl∧sl≤3)(m:0≤pl∧pl<co.tdiv 4)(c:pa=0→sl=0→2≤pl):1≤mh y la co pa ln sl pl∧mh y la co pa ln sl pl≤512:=by
 have d:0≤sl*co.tdiv 4∧sl*co.tdiv 4≤192∧(sl≠0→2≤sl*co.tdiv 4):=by
  have e:sl=0∨sl=1∨sl=2∨sl=3:=by omega
  rcases e with rfl|rfl|rfl|rfl<;>omega
 obtain⟨n,o,f⟩:=d;have g:(pa≠0→n6 co pa sl=co-co.tdiv 4)∧(pa=0→n6 co pa sl=sl*co.tdiv 4):=⟨fun h=>ak h,fun h=>av h⟩;obtain⟨i,j⟩:=g;unfold mh;by_cases a:pa=0
 ·rw[j a];by_cases b:sl=0
  ·have:=c a b;have k:pe y la pa ln sl=ln:=av ⟨a,b⟩;rw[av k];omega
  ·have:=f b
   repeat' split
   all_goals omega
 ·rw[i a]
  repeat' split
  all_goals omega
def ahp{x:BitVec 64}{a:Int}(b:x.toNat<4294967296)(h:1≤a∧a≤512):(o9 x a:Int)<a:=by
 unfold o9;have h1:((x*x)>>>32:BitVec 64).toNat<4294967296:=by
  rw[y7,w5];have:=(x*x).isLt;omega
 generalize((x*x)>>>32:BitVec 64)=z at h1;have h2:(BitVec.ofInt 64 a).toNat=a.toNat:=by rw[rJ];omega
 have h3:a.toNat*z.toNat<a.toNat*4294967296:=Nat.mul_lt_mul_of_pos_left h1 (by omega);rw[y7,w5,iG,h2,dM (by omega)];have:a.toNat*z.toNat/2^32<a.toNat:=By (by rw[gU (2^32)];exact h3);omega
def Ta(h2:8≤co∧co≤256∧co.tdiv 4*4=co)(h3:0≤pa)(h4:0≤sl∧sl≤3)(a:0≤pl∧pl<co.tdiv 4)(b:pa=0→sl=0→2≤pl):0≤n7 w la co pa ln sl pl∧n7 w la co pa ln sl pl<co:=by
 have c:=S9 (y:=w>>>32) (la:=la) (ln:=ln) h2 h3 h4 a b;have f:=ahp (x:=w&&&4294967295#64) (by
  rw[Wd];have:w.toNat&&&(4294967295#64).toNat≤(4294967295#64).toNat:=Nat.and_le_right;have g:(4294967295#64).toNat=4294967295:=rfl;omega) c
 have h:0≤q5 co pa sl:=by
  unfold q5;split
  ·omega
  ·have d:sl=0∨sl=1∨sl=2∨sl=3:=by omega
   rcases d with rfl|rfl|rfl|rfl<;>simp only[Int.reduceAdd,Int.reduceTMod]<;>omega
 unfold n7 Gz q4;have e:(0:Int)≤q5 co pa sl+mh (w>>>32) la co pa ln sl pl-(1:Int)-(o9 (w&&&4294967295#64) (mh (w>>>32) la co pa ln sl pl):Int):=by omega
 rw[oz e];exact⟨We _ (by omega),aor _ (by omega)⟩
structure Tb(d e:n8):Prop where
 kd:e.kd=d.kd
 ps:e.ps=d.ps
 co:e.co=d.co
 pa:e.pa=d.pa
 sl:e.sl=d.sl
 az:e.az=d.az
 pl:e.pl=d.pl
 ko:e.ko=d.ko
 nn:e.nn=d.nn
 r:e.r=d.r
 n:e.Z.n=d.Z.n
def LP(a:Nat):∀m (d:n8),Tb d (iter (yz a) m d)
 |0,d=>⟨rfl,rfl,rfl,rfl,rfl,rfl,rfl,rfl,rfl,rfl,rfl⟩|m+1,⟨b,c,co,pa,sl,e,pl,f,g,r,Z,i⟩=>by
  obtain⟨h1,h2,h3,h4,h,j,k,n,o,q,s⟩:=LP a m (yz a ⟨b,c,co,pa,sl,e,pl,f,g,r,Z,i⟩);exact⟨h1,h2,h3,h4,h,j,k,n,o,q,s⟩
def gP(p a:Nat)(b c co pa sl d pl:Int)(r:Nat→U 64):Nat:=(j4 (c8 b c p co pa a sl pl (lF (r a) co (cJ sl d pl))) p pa a sl).toNat
def hY(p b:Nat)(d:ob):ob:=
 match d with
 |⟨c,e,co,pa,sl,a,pl,f,r⟩=>
  if pa=0∧cJ sl a pl<2 then⟨c,e,co,pa,sl,a,pl+1,f,r⟩
  else if pa=0 then AS bw c8 c e co pa sl a pl f r p b (gP p b c e co pa sl a pl r)
  else⟨c,e,co,pa,sl,a,pl+1,f,upd r b (q7 (r b) (cJ sl a pl) (pi bw c8 p b (gP p b c e co pa sl a pl r) c e co pa sl a pl f r).Z)⟩
def LQ(p a P:Nat)(c d co pa sl b pl:Int)(e:Nat→Nat)(r:Nat→U 64):Dr a (pi bw c8 p a P c d co pa sl b pl e r)=⟨c,d,co,pa,sl,b,pl+1,e,upd r a (q7 (r a) (cJ sl b pl) (pi bw c8 p a P c d co pa sl b pl e r).Z)⟩:=by
 obtain⟨h1,h2,h3,h4,f,g,h,i,j,k,m⟩:=LP a (128-(0:Int)).toNat (yD bw c8 p a P c d co pa sl b pl e r);unfold Dr;have n:∀X:U 64,True:=fun _=>trivial
 show ob.mk (pi bw c8 p a P c d co pa sl b pl e r).kd _ _ _ _ _ _ _ _=_;unfold pi;rw[h1,h2,h3,h4,f,g,h,i,j,k];rfl
structure GL(p lane:Nat)(d:ob):Prop where
 co:8≤d.co∧d.co≤256∧d.co.tdiv 4*4=d.co
 az:d.az=d.co.tdiv 4
 pa:0≤d.pa∧d.pa≤3
 sl:0≤d.sl∧d.sl≤3
 pl:0≤d.pl∧d.pl≤d.az
 nn:∀i,i<p→(d.nn i:Int)=d.co
 r:∀i,i<p→(d.r i).n=d.nn i*128
open Classical in
def mj(p a:Nat):eN ob where
 d0:=⟨0,0,0,0,0,0,0,fun _=>0,fun _=>0⟩
 read:=fun b e=>
  match b with
  |⟨[.ref (.ptr 0 (.c 0)),.num (.int .i64 (.s pa)),.num (.int .i64 (.c ln)),.num (.int .i64 (.s sl)),.atom .aa,.atom .aa,.atom .aa,.atom .aa,.num (.int .i64 (.s f)),.num (.int .i64 (.s pl)),.atom .aa,.atom .aa,.atom .aa,.atom .aa,.atom .aa,.atom .aa],[]⟩=>
   match kM ln (a:Int)with
   |true=>
    match Dn p e with
    |some ((g,h,co),i,r,T)=>
     match T with
     |[]=>some ⟨g,h,co,pa,sl,f,pl,i,r⟩|_=>none
    |none=>none
   |false=>none
  |_=>none
 ay:=k5 p a
 next:=hY p a
 rem:=fun d=>(d.az-d.pl).toNat
 aS:=fun d=>decide (GL p a d)
 out:=.exit 0
def ahq(e:U 64→U 64→U 64)(wd:k4)(b c co pa sl a pl:Int)(d:Nat→Nat)(r:Nat→U 64):
 kD.map (fun q=>eg (q.1+2) none (k5 q.1 q.2 ⟨b,c,co,pa,sl,a,pl,d,r⟩) (bZ (yB e wd) (sJ q.1 q.2) 21 0 (k5 q.1 q.2 ⟨b,c,co,pa,sl,a,pl,d,r⟩).1 ⟨(k5 q.1 q.2 ⟨b,c,co,pa,sl,a,pl,d,r⟩).2,bJ,[false],[]⟩))=
  kD.map fun q=>some (.exit 0,k5 q.1 q.2 ⟨b,c,co,pa,sl,a,pl,d,r⟩,[decide (pl<a)==false]):=by kernel_rfl
def yE(p a:Nat)(d:ob):(k5 p a d).2.length=p+2:=LO p d.kd d.ps d.co d.nn d.r []
def ahr(p b:Nat)(c:aI)(e:List ah)(d:ob)(h:(mj p b).read c e=some d):(c,e)=(mj p b).ay d:=by
 unfold mj at h;dsimp only at h;split at h
 case h_2=>cases h
 split at h
 case h_2=>cases h
 rename_i a;rw[nu]at a;simp only[eT]at a;subst a;split at h
 case h_2=>cases h
 rename_i f;split at h
 case h_2=>cases h
 cases h;rw[LL f];rfl
def ahs(b:U 64→U 64→U 64)(wd:k4)(c d co pa sl e pl:Int)(f:Nat→Nat)(r:Nat→U 64)(j:p≤8)(g:l<p)(h:P<p):sK b wd c d co pa sl e pl f r (p,l,P)=sL b wd c d co pa sl e pl f r (p,l,P):=by
 have a:=S6 g h;have i:p=1∨p=2∨p=3∨p=4∨p=5∨p=6∨p=7∨p=8:=by omega
 rcases i with rfl|rfl|rfl|rfl|rfl|rfl|rfl|rfl
 ·exact gO (ag9 ..) a
 ·exact gO (aha ..) a
 ·exact gO (ahb ..) a
 ·exact gO (ahc ..) a
 ·exact gO (ahd ..) a
 ·exact gO (ahe ..) a
 ·exact gO (ahf ..) a
 ·exact gO (ahg ..) a
def aht(b:U 64→U 64→U 64)(wd:k4)(c d co pa sl e pl:Int)(f:Nat→Nat)(r:Nat→U 64)(j:p≤8)(g:l<p)(h:P<p):q8 b wd c d co pa sl e pl f r (p,l,P)=q9 b wd c d co pa sl e pl f r (p,l,P):=by
 have a:=S6 g h;have i:p=1∨p=2∨p=3∨p=4∨p=5∨p=6∨p=7∨p=8:=by omega
 rcases i with rfl|rfl|rfl|rfl|rfl|rfl|rfl|rfl
 ·exact gO (ahh ..) a
 ·exact gO (ahi ..) a
 ·exact gO (ahj ..) a
 ·exact gO (ahk ..) a
 ·exact gO (ahl ..) a
 ·exact gO (ahm ..) a
 ·exact gO (ahn ..) a
 ·exact gO (aho ..) a
end
section
open Go.aA
variable [aR][aF][bq]
def wD(X:U 64)(c:Int)(a:U 64):(q7 X c a).n=X.n:=by kernel_rfl
def LR{c:Int}{X:U 64}{n:Nat}{co:Int}(h:0≤c∧c<co)(a:(n:Int)=co)(b:X.n=n*128):Dq c X=true:=by
 refine bl ?_;unfold dK;omega
def GM{r:Nat→U 64}{l:Nat}{X:U 64}(h:X.n=(r l).n)(i:Nat):(upd r l X i).n=(r i).n:=by
 unfold upd;split
 ·rename_i a;rw[rO a];exact h
 ·rfl
def LS{co sl pl:Int}(h2:8≤co∧co≤256∧co.tdiv 4*4=co)(h4:0≤sl∧sl≤3)(b:0≤pl∧pl<co.tdiv 4):0≤cJ sl (co.tdiv 4) pl∧cJ sl (co.tdiv 4) pl<co∧0≤sl*co.tdiv 4∧sl*co.tdiv 4≤256∧(sl≠0→2≤cJ sl (co.tdiv 4) pl)∧(sl=0→cJ sl (co.tdiv 4) pl=pl):=by
 unfold cJ;have a:sl=0∨sl=1∨sl=2∨sl=3:=by omega
 rcases a with rfl|rfl|rfl|rfl<;>omega
section
variable{p P:Nat}{kd ps co Q sl R pl:Int}{S:Nat→Nat}{r:Nat→U 64}
def LU{b c:Bool}(h2:8≤co∧co≤256∧co.tdiv 4*4=co)(h4:0≤sl∧sl≤3)(g:R=co.tdiv 4)(f:0≤pl∧pl<R)(h:(Q==0)=b)(i:b=true→decide (cJ sl R pl<2)=c):∀d∈yC co Q sl R pl b c,d=true:=by
 subst g;obtain⟨j,k,l,m,_,_⟩:=LS h2 h4 f;intro d a;unfold yC at a;rcases fR.1 a with a|a
 ·cases b with|true=>exact ax (by rw[eT];exact i rfl) aV d a|false=>cases a
 ·have e:((Q==0)==b)=true:=by rw[eT];exact h
  exact ax e (ax e (ax e (ax (hU (by omega)) (ax (hU (by omega)) (ax (by rw[eT];exact bl f.2) aV))))) d a
def ahu(X:U 64)(co a:Int):(lF X co a).n=128:=by
 show((List.range 128).map _).length=128;rw[lQ,Bu]
def ahv(t:p≤8)(d:P<p)(h2:8≤co∧co≤256∧co.tdiv 4*4=co)(o:R=co.tdiv 4)(h3:0≤Q∧Q≤3)(h4:0≤sl∧sl≤3)(a:0≤pl∧pl<R)(e:Q=0→sl=0→2≤pl)(f:∀i,i<p→(S i:Int)=co)(g:∀i,i<p→(r i).n=S i*128):
 gP p P kd ps co Q sl R pl r<p∧∀q∈GK c8 p P (gP p P kd ps co Q sl R pl r) kd ps co Q sl R pl S r,q=true:=by
 subst o;obtain⟨u,v,x,y,_,_⟩:=LS h2 h4 a;have s:=S8 (w:=c8 kd ps p co Q P sl pl (lF (r P) co (cJ sl (co.tdiv 4) pl))) (la:=(p:Int)) (pa:=Q) (ln:=(P:Int)) (sl:=sl) ⟨by omega,by omega⟩ ⟨by omega,by omega⟩;have h:((gP p P kd ps co Q sl (co.tdiv 4) pl r:Nat):Int)=j4 (c8 kd ps p co Q P sl pl (lF (r P) co (cJ sl (co.tdiv 4) pl))) p Q P sl:=Ei s.1;have b:gP p P kd ps co Q sl (co.tdiv 4) pl r<p:=by omega
 have j:=Ta (w:=c8 kd ps p co Q P sl pl (lF (r P) co (cJ sl (co.tdiv 4) pl))) (la:=(p:Int)) (ln:=(P:Int)) h2 h3.1 h4 a e;have k:0≤wC co (cJ sl (co.tdiv 4) pl)∧wC co (cJ sl (co.tdiv 4) pl)<co:=by
  unfold wC;rw[oz (by omega)];exact⟨We _ (by omega),aor _ (by omega)⟩
 refine⟨b,?_⟩;generalize z:gP p P kd ps co Q sl (co.tdiv 4) pl r=c at b h;have l:=f c b;have m:=f P d;refine ax rfl (ax (LR j l (g c b)) (ax (yA (by rw[l];exact j)) (ax ?_ (ax (LR k m (g P d)) (ax (yA (by rw[m];exact k)) (ax (bl (by omega)) (ax (hU (by omega)) (ax (hU (by omega)) aV))))))))
 show((jl.aS ⟨kd,ps,p,co,Q,P,sl,pl,lF (r P) co (cJ sl (co.tdiv 4) pl)⟩&&Nat.beq (lF (r P) co (cJ sl (co.tdiv 4) pl)).n 128)&&decide (_=(c:Int)))=true;rw[dH,dH];exact⟨⟨bl ⟨by omega,by omega,h2.1,h2.2.1,h2.2.2,h3.1,h3.2,h4.1,h4.2,by omega,by omega,a.1,a.2,e⟩,by rw[ahu];rfl⟩,bl h.symm⟩
end
def ahw{p P:Nat}(u:p≤8)(e:P<p):eH Tryz.prog bB (aj 21) (bN Tryz.prog 21) (bg Tryz.prog 21 0) (mj p P).T.told:=by
 have L:=GG u e;have M:∀d:ob,((mj p P).ay d).2.length=p+2:=yE p P;refine(mj p P).j0 (iw S5 (ag5 u e _) 21 0 J3 (by rw[show(cH Tryz.prog 21).length=2 by kernel_rfl];omega)) (by intro k D;have D:k∈([]:List ah):=D;cases D) (by intro h;cases h) (ahr p P) ?_ ?_
 ·rintro⟨kd,ps,co,Q,sl,R,pl,S,r⟩ E z v;have z:GL p P ⟨kd,ps,co,Q,sl,R,pl,S,r⟩:=@aZ _ (Classical.propDecidable _) z;have v:(R-pl).toNat=E+1:=v;obtain⟨j,f,A,bf,F,m,w⟩:=z;have j:8≤co∧co≤256∧co.tdiv 4*4=co:=j;have f:R=co.tdiv 4:=f;have A:0≤Q∧Q≤3:=A;have bf:0≤sl∧sl≤3:=bf;have F:0≤pl∧pl≤R:=F;have m:∀i,i<p→(S i:Int)=co:=m;have w:∀i,i<p→(r i).n=S i*128:=w;have x:0≤pl∧pl<R:=⟨F.1,by omega⟩;obtain⟨B,C,ag,ai,aa,N⟩:=LS j bf (f▸x);rw[←f]at B C aa N;have ab:(mj p P).next ⟨kd,ps,co,Q,sl,R,pl,S,r⟩=hY p P ⟨kd,ps,co,Q,sl,R,pl,S,r⟩:=rfl;have H:∀q,(∀i,(q i).n=(r i).n)→(mj p P).aS ⟨kd,ps,co,Q,sl,R,pl+1,S,q⟩=true:=fun q h=>@bl _ (Classical.propDecidable _) (show GL p P _ from⟨j,f,A,bf,⟨by show 0≤pl+1;omega,by show pl+1≤R;omega⟩,m,fun i hi=>(h i).trans (w i hi)⟩);have I:∀q,(mj p P).rem ⟨kd,ps,co,Q,sl,R,pl+1,S,q⟩=E:=fun q=>by show(R-(pl+1)).toNat=E;omega
  have J:((mj p P).ay ⟨kd,ps,co,Q,sl,R,pl,S,r⟩).2.length-(mj p P).cG.length=p+2:=(gz _).trans (yE p P _);rw[ab,J];by_cases o:Q=0∧cJ sl R pl<2
  ·have y:hY p P ⟨kd,ps,co,Q,sl,R,pl,S,r⟩=⟨kd,ps,co,Q,sl,R,pl+1,S,r⟩:=av o;rw[y];have b:=gO (ag8 bw c8 kd ps co Q sl R pl S r) L;dsimp only at b;refine⟨⟨(bE 5 31),some (List.range (p+2)),bV (pl+1)::yC co Q sl R pl true true,b,?_⟩,H r fun _=>rfl,I r,(yE ..).trans (yE ..).symm⟩;exact ax (hU (by omega)) (LU j bf f x (by simp[o.1]) fun _=>bl o.2)
  ·have ad:Q=0→sl=0→2≤pl:=fun h ae=>by
    have:=N ae;rcases Int.lt_or_le (cJ sl R pl) 2 with g|g
    ·exact absurd ⟨h,g⟩ o
    ·omega
   obtain⟨O,V⟩:=ahv (kd:=kd) (ps:=ps) u e j f A bf x ad m w;have K:=LR (X:=r P) ⟨B,C⟩ (m P e) (w P e);have W:=yA (c:=cJ sl R pl) (n:=S P) ⟨B,by rw[m P e];exact C⟩;by_cases s:Q=0
   ·have y:hY p P ⟨kd,ps,co,Q,sl,R,pl,S,r⟩=AS bw c8 kd ps co Q sl R pl S r p P (gP p P kd ps co Q sl R pl r):=(ak o).trans (av s);rw[y];have b:sK bw c8 kd ps co Q sl R pl S r (p,P,gP p P kd ps co Q sl R pl r)=sL bw c8 kd ps co Q sl R pl S r (p,P,gP p P kd ps co Q sl R pl r):=ahs bw c8 kd ps co Q sl R pl S r u e O;refine⟨⟨_,_,_,b,?_⟩,H _ fun i=>GM (wD ..) i,I _,(yE p P (AS ..)).trans (yE ..).symm⟩;intro l a;rcases fR.1 a with a|a
    ·exact ax (hU (by omega)) (ax K (ax W (ax (by simp[s]) aV))) l a
    ·rcases fR.1 a with a|a
     ·exact V l a
     ·exact LU j bf f x (by simp[s]) (fun _=>jQ fun h=>o ⟨s,h⟩) l a
   ·have y:hY p P ⟨kd,ps,co,Q,sl,R,pl,S,r⟩=Dr P (pi bw c8 p P (gP p P kd ps co Q sl R pl r) kd ps co Q sl R pl S r):=((ak o).trans (ak s)).trans (LQ ..).symm;rw[y];have b:q8 bw c8 kd ps co Q sl R pl S r (p,P,gP p P kd ps co Q sl R pl r)=q9 bw c8 kd ps co Q sl R pl S r (p,P,gP p P kd ps co Q sl R pl r):=aht bw c8 kd ps co Q sl R pl S r u e O;have af:=LP P (128-(0:Int)).toNat (yD bw c8 p P (gP p P kd ps co Q sl R pl r) kd ps co Q sl R pl S r);have t:Tb (yD bw c8 p P (gP p P kd ps co Q sl R pl r) kd ps co Q sl R pl S r) (pi bw c8 p P (gP p P kd ps co Q sl R pl r) kd ps co Q sl R pl S r):=af;have Y:(yD bw c8 p P (gP p P kd ps co Q sl R pl r) kd ps co Q sl R pl S r).Z.n=128:=yg _;refine⟨⟨(bE 4 1)++(List.replicate (gP p P kd ps co Q sl R pl r) false++[true,true]),some (List.range (p+2)),S7 P (pi bw c8 p P (gP p P kd ps co Q sl R pl r) kd ps co Q sl R pl S r)++([(n9 p P).aS (yD bw c8 p P (gP p P kd ps co Q sl R pl r) kd ps co Q sl R pl S r),decide ((0:Int)<Q)==true]++(GK c8 p P (gP p P kd ps co Q sl R pl r) kd ps co Q sl R pl S r++yC co Q sl R pl false false)),?_,?_⟩,?_,?_,?_⟩
    ·delta q8 q9 at b;dsimp only at b;exact b
    ·intro l a;rcases fR.1 a with a|a
     ·refine ax (hU ?_) (ax ?_ (ax ?_ (ax (bl ?_) aV))) l a
      ·rw[t.pl];show -9000000000≤pl+1∧pl+1≤9000000000;omega
      ·rw[t.ko,t.r];exact K
      ·rw[t.ko,t.nn];exact W
      ·rw[t.n,Y];omega
     rcases fR.1 a with a|a
     ·refine ax ?_ (ax ?_ aV) l a
      ·refine bl ⟨by omega,by omega,B,by rw[m P e];exact C,?_,Y⟩;have:=K;exact aZ this
      ·have:0<Q:=by omega
       simp[this]
     rcases fR.1 a with a|a
     ·exact V l a
     ·exact LU j bf f x (by simp[s]) (fun h=>by cases h) l a
    ·rw[LQ];exact H _ fun i=>GM (wD ..) i
    ·rw[LQ];exact I _
    ·exact(M _).trans (M _).symm
 ·rintro⟨kd,ps,co,Q,sl,R,pl,S,r⟩ z v;have v:(R-pl).toNat=0:=v;have J:((mj p P).ay ⟨kd,ps,co,Q,sl,R,pl,S,r⟩).2.length-(mj p P).cG.length=p+2:=(gz _).trans (yE p P _);rw[J];have b:=gO (ahq bw c8 kd ps co Q sl R pl S r) L;dsimp only at b;refine⟨[false],none,[decide (pl<R)==false],b,?_⟩;exact ax (by rw[eT];exact jQ (by omega)) aV
end
section
open Go.aA
variable [aR][aF][bq]
variable{p lane i:Nat}
def AT(p lane:Nat):FuncId→Nat→Option cP|21,2=>some (mj p lane).T.told|21,11=>some (n9 p lane).T.told|_,_=>none
def ahx(c:p≤8)(d:lane<p)(spec:FuncId→Option aA.Spec):c6 (de spec (AT p lane)) bB:=by
 refine c6.of fun f=>?_;by_cases a:f=21
 ·subst a;refine .inr ⟨by kernel_rfl,fun i hi h e=>?_⟩;have hi:i<(cH Tryz.prog 21).length:=hi;rw[show(cH Tryz.prog 21).length=2 by kernel_rfl]at hi;have g:i=0∨i=1:=by omega
  rcases g with rfl|rfl
  ·have b:(bX (bg Tryz.prog 21 0)).bind (AT p lane 21)=some (mj p lane).T.told:=by kernel_rfl
   obtain rfl:=dV (b.symm.trans e);exact(ahw c d).run
  ·have b:(bX (bg Tryz.prog 21 1)).bind (AT p lane 21)=some (n9 p lane).T.told:=by kernel_rfl
   obtain rfl:=dV (b.symm.trans e);exact(S3 c d).run
 ·refine .inl fun r=>?_
  show AT p lane f r=none;unfold AT;split
  ·exact absurd rfl a
  ·exact absurd rfl a
  ·rfl
structure wE where
 (kd ps co pa sl:Int)(nn:Nat→Nat)(r:Nat→U 64)
structure GS(p lane:Nat)(d:wE):Prop where
 co:8≤d.co∧d.co≤256∧d.co.tdiv 4*4=d.co
 pa:0≤d.pa∧d.pa≤3
 sl:0≤d.sl∧d.sl≤3
 nn:∀i,i<p→(d.nn i:Int)=d.co
 r:∀i,i<p→(d.r i).n=d.nn i*128
def LV:Nat→Nat→(Nat→Nat)→List Nat|0,_,_=>[]|n+1,i,a=>a i::LV n (i+1) a
def LW:Nat→Nat→(Nat→U 64)→List (U 64)|0,_,_=>[]|n+1,i,r=>r i::LW n (i+1) r
def c7(p:Nat)(a:Nat→Nat):Nat→Nat:=fun j=>(LV p 0 a).getD j 0
def fy(p:Nat)(r:Nat→U 64):Nat→U 64:=fun j=>(LW p 0 r).getD j (U.zero 64 0)
def Tc:∀(n i:Nat) (a:Nat→Nat) (j:Nat),j<n→(LV n i a).getD j 0=a (i+j)
 |n+1,i,a,0,_=>rfl|n+1,i,a,j+1,h=>by
  have:=Tc n (i+1) a j (by omega);rw[show i+(j+1)=i+1+j by omega];exact this
def Td:∀(n i:Nat) (r:Nat→U 64) (j:Nat),j<n→(LW n i r).getD j (U.zero 64 0)=r (i+j)
 |n+1,i,r,0,_=>rfl|n+1,i,r,j+1,h=>by
  have:=Td n (i+1) r j (by omega);rw[show i+(j+1)=i+1+j by omega];exact this
def wF(a:Nat→Nat)(h:i<p):c7 p a i=a i:=(Tc p 0 a i h).trans (by rw[cM])
def mZ(r:Nat→U 64)(h:i<p):fy p r i=r i:=(Td p 0 r i h).trans (by rw[cM])
def uf(p lane:Nat)(d:wE):ob:=iter (hY p lane) (d.co.tdiv 4-0).toNat ⟨d.kd,d.ps,d.co,d.pa,d.sl,d.co.tdiv 4,0,d.nn,d.r⟩
open Classical in
def pn(p lane:Nat):bT wE where
 d0:=⟨0,0,0,0,0,fun _=>0,fun _=>0⟩
 read:=fun a b=>
  match a with
  |[.ref (.ptr 0 (.c 0)),.num (.int .i64 (.s e)),.num (.int .i64 (.c f)),.num (.int .i64 (.s sl))]=>
   match kM f (lane:Int)with
   |true=>
    match Dn p b with
    |some ((g,h,co),j,r,T)=>
     match T with
     |[]=>some ⟨g,h,co,e,sl,j,r⟩|_=>none
    |none=>none
   |false=>none
  |_=>none
 args:=fun d=>[.P 0,.aq d.pa,.J (lane:Int),.aq d.sl]
 heap:=fun d=>pg p d.kd d.ps d.co d.nn d.r []
 out:=fun d=>pg p d.kd d.ps d.co d.nn (uf p lane ⟨d.kd,d.ps,d.co,d.pa,d.sl,c7 p d.nn,fy p d.r⟩).r []
 val:=fun _=>.obj .bx []
 aS:=fun d=>decide (GS p lane d)
def ahy(p lane:Nat)(a:List af)(c:List ah)(d:wE)(h:(pn p lane).read a c=some d):a=(pn p lane).args d∧c=(pn p lane).heap d:=by
 unfold pn at h;dsimp only at h;split at h
 case h_2=>cases h
 split at h
 case h_2=>cases h
 rename_i b;rw[nu]at b;simp only[eT]at b;subst b;split at h
 case h_2=>cases h
 rename_i e;split at h
 case h_2=>cases h
 cases h;exact⟨rfl,LL e⟩
structure Te(d e:ob):Prop where
 kd:e.kd=d.kd
 ps:e.ps=d.ps
 co:e.co=d.co
 nn:e.nn=d.nn
 n:∀i,(e.r i).n=(d.r i).n
def Tf(p lane:Nat):∀m (d:ob),Te d (iter (hY p lane) m d)
 |0,d=>⟨rfl,rfl,rfl,rfl,fun _=>rfl⟩|m+1,⟨b,c,co,e,sl,f,pl,g,r⟩=>by
  obtain⟨h1,h2,h3,h4,h⟩:=Tf p lane m (hY p lane ⟨b,c,co,e,sl,f,pl,g,r⟩);have a:Te ⟨b,c,co,e,sl,f,pl,g,r⟩ (hY p lane ⟨b,c,co,e,sl,f,pl,g,r⟩):=by
   unfold hY;dsimp only;split
   ·exact⟨rfl,rfl,rfl,rfl,fun _=>rfl⟩
   ·split
    ·exact⟨rfl,rfl,rfl,rfl,fun i=>GM (wD ..) i⟩
    ·exact⟨rfl,rfl,rfl,rfl,fun i=>GM (wD ..) i⟩
  exact⟨h1.trans a.kd,h2.trans a.ps,h3.trans a.co,h4.trans a.nn,fun i=>(h i).trans (a.n i)⟩
def ahz(e:U 64→U 64→U 64)(wd:k4)(a b co d sl:Int)(c:Nat→Nat)(r:Nat→U 64):
 kD.map (fun q=>qO (q.1+2) (some (List.range (q.1+2))) (pg q.1 a b co c (uf q.1 q.2 ⟨a,b,co,d,sl,c7 q.1 c,fy q.1 r⟩).r []) (.obj .bx []) (bY (yB e wd) (AT q.1 q.2) 21 ((pn q.1 q.2).args ⟨a,b,co,d,sl,c,r⟩) ⟨pg q.1 a b co c r [],bJ,[],[]⟩))=
  kD.map fun q=>some (pg q.1 a b co c (uf q.1 q.2 ⟨a,b,co,d,sl,c7 q.1 c,fy q.1 r⟩).r [],.obj .bx [],[(mj q.1 q.2).aS ⟨a,b,co,d,sl,co.tdiv 4,0,c7 q.1 c,fy q.1 r⟩,decide ((0:Int)≤co∧(0:Int)<4∧co≤9223372036854775807)]):=by kernel_rfl
def ahA(g:p≤8)(h:lane<p):br 21 (pn p lane).spec:=by
 refine(pn p lane).ok (dm S5 (ahx g h _)) (ahy p lane) ?_;rintro⟨b,c,co,d,sl,a,r⟩ e;have e:GS p lane ⟨b,c,co,d,sl,a,r⟩:=@aZ _ (Classical.propDecidable _) e;obtain⟨f,k,bf,l,m⟩:=e;have j:=gO (ahz bw c8 b c co d sl a r) (GG g h);dsimp only at j;have o:((pn p lane).heap ⟨b,c,co,d,sl,a,r⟩).length=p+2:=LO ..;rw[o];have f:8≤co∧co≤256∧co.tdiv 4*4=co:=f;refine⟨_,_,_,j,ax (@bl _ (Classical.propDecidable _) (show GL p lane _ from⟨f,rfl,k,bf,⟨rN 0,by show 0≤co.tdiv 4;omega⟩,fun i hi=>by show(c7 p a i:Int)=co;rw[wF a hi];exact l i hi,fun i hi=>by show(fy p r i).n=c7 p a i*128;rw[wF a hi,mZ r hi];exact m i hi⟩)) (ax (bl (by omega)) aV)⟩
end
section
open Go.aA
variable [aR][aF][bq]
def ahB(X b:U 64)(a i:Nat)(h:a+b.n≤X.n):aK (X.over a b) i=if a≤i∧i<a+b.n then aK b (i-a)else aK X i:=by
 have c:=X.h;have d:=b.h
 show(rP X.l a b.l).getD i 0#64=_;unfold aK;rw[xM _ _ _ (by omega)];unfold over;simp only[dZ];rcases cv i a with h1|h1
 ·rw[ak (by omega),za,iE (by simp;omega),lP,av h1]
 ·rcases cv i (a+b.n)with h2|h2
  ·rw[av ⟨h1,h2⟩,za,ie (by simp;omega),iE (by simp;omega)];congr 2;simp;omega
  ·rw[ak (by omega),ie (by simp;omega),s9];congr 2;simp;omega
def GO(c:Int):dK c=c.toNat*128:=cM _
def AU{X:U 64}{c:Int}(b:U 64)(h:dK c+128≤X.n)(a:Nat):aK (q7 X c b) a=if dK c≤a∧a<dK c+128 then aK b (a-dK c)else aK X a:=by
 have e:aK (q7 X c b) a=if dK c≤a∧a<dK c+(dg b).n then aK (dg b) (a-dK c)else aK X a:=ahB X (dg b) (dK c) a (by rw[yg];exact h)
 rw[e,yg];by_cases d:dK c≤a∧a<dK c+128
 ·rw[av d,av d,AE _ (by omega)]
 ·rw[ak d,ak d]
def Tg(d:Nat)(e f co g sl i pl b:Int)(j:Nat→Nat)(r:Nat→U 64)(Z:U 64)(l:Z.n=128):∀k,k≤128→∃a,iter (yz d) k ⟨e,f,co,g,sl,i,pl,b,j,r,Z,0⟩=⟨e,f,co,g,sl,i,pl,b,j,r,a,(k:Int)⟩∧a.n=128∧∀n,aK a n=if n<k then aK Z n^^^aK (r d) (dK b+n)else aK Z n
 |0,_=>⟨Z,rfl,l,fun n=>by rw[ak (by omega)]⟩|k+1,s=>by
  obtain⟨a,p,h,m⟩:=Tg d e f co g sl i pl b j r Z l k (by omega);refine⟨AQ (r d) b a k,by rw[gB,p];rfl,h,fun n=>?_⟩;have q:aK (AQ (r d) b a k) n=if n=0+k*1 then aK a (0+k*1)^^^aK (r d) (dK b+k*1)else aK a n:=nS _ n (by show 0+k*1<_;omega)
  rw[q];by_cases c:n=0+k*1
  ·rw[av c,m,ak (by omega),av (by omega),c,cM]
  ·rw[ak c,m n];by_cases o:n<k
   ·rw[av o,av (by omega)]
   ·rw[ak o,ak (by omega)]
def ahC(p b:Nat)(f g co d sl a pl:Int)(j:Nat→Nat)(r:Nat→U 64)(h:dK (cJ sl a pl)+128≤(r b).n)(l:¬(d=0∧cJ sl a pl<2)):
 ∃k,hY p b ⟨f,g,co,d,sl,a,pl,j,r⟩=⟨f,g,co,d,sl,a,pl+1,j,upd r b k⟩∧k.n=(r b).n∧∀e,aK k e=if dK (cJ sl a pl)≤e∧e<dK (cJ sl a pl)+128 then
  (if d=0 then 0#64 else aK (r b) e)^^^aK (bw (lF (r b) co (cJ sl a pl)) (rowAt (r (gP p b f g co d sl a pl r)) (dK (Dp c8 p b f g co d sl a pl r)))) (e-dK (cJ sl a pl))else aK (r b) e:=by
 by_cases c:d=0
 ·refine⟨q7 (r b) (cJ sl a pl) (AR bw c8 p b (gP p b f g co d sl a pl r) f g co d sl a pl r),?_,wD _ _ _,fun e=>?_⟩
  ·show(if d=0∧cJ sl a pl<2 then _ else if d=0 then _ else _)=_;rw[ak l,av c];delta AS;rfl
  ·rw[AU _ h];by_cases i:dK (cJ sl a pl)≤e∧e<dK (cJ sl a pl)+128
   ·rw[av i,av i,av c,BitVec.zero_xor];delta AR;rfl
   ·rw[ak i,ak i]
 ·obtain⟨m,q,v,s⟩:=Tg b f g co d sl a pl (cJ sl a pl) j r (dg (AR bw c8 p b (gP p b f g co d sl a pl r) f g co d sl a pl r)) (yg _) 128 (aX _);have t:(pi bw c8 p b (gP p b f g co d sl a pl r) f g co d sl a pl j r).Z=m:=by
   have u:pi bw c8 p b (gP p b f g co d sl a pl r) f g co d sl a pl j r=_:=q;rw[u]
  refine⟨q7 (r b) (cJ sl a pl) m,?_,wD _ _ _,fun e=>?_⟩
  ·show(if d=0∧cJ sl a pl<2 then _ else if d=0 then _ else _)=_;rw[ak l,ak c,t]
  ·rw[AU _ h];by_cases i:dK (cJ sl a pl)≤e∧e<dK (cJ sl a pl)+128
   ·have o:e-dK (cJ sl a pl)<128:=by omega
    rw[av i,av i,ak c,s,av o,AE _ o,show dK (cJ sl a pl)+(e-dK (cJ sl a pl))=e by omega,Ie];delta AR;rfl
   ·rw[ak i,ak i]
def Ti(p f:Nat)(c d co a sl b pl:Int)(e:Nat→Nat)(r:Nat→U 64)(g:a=0∧cJ sl b pl<2):hY p f ⟨c,d,co,a,sl,b,pl,e,r⟩=⟨c,d,co,a,sl,b,pl+1,e,r⟩:=by
 show(if a=0∧cJ sl b pl<2 then _ else if a=0 then _ else _)=_;rw[av g]
end
section
open Go.aA
variable{x:BitVec 64}{p n sl k:BitVec 32}
def Tj(x:BitVec 64):((((x&&&4294967295#64)*(x&&&4294967295#64))>>>32:BitVec 64)).toNat<4294967296:=by
 rw[y7,w5];have:=((x&&&4294967295#64)*(x&&&4294967295#64)).isLt;omega
def Tk(a m:BitVec 64)(b:a.toNat<4294967296)(h1:1≤m.toNat)(h2:m.toNat<65536):((a*m)>>>32:BitVec 64).toNat<m.toNat:=by
 rw[y7,w5,iG];have h3:a.toNat*m.toNat<4294967296*m.toNat:=Nat.mul_lt_mul_of_pos_right b (by omega);rw[dM (by omega)];exact By (by show _<4294967296*m.toNat;exact h3)
def Tl(x m b:BitVec 64)(c a:BitVec 32)(h1:1≤m.toNat)(h2:m.toNat<65536)(q:b.toNat<65536)(r:1≤a.toNat)(s:a.toNat<65536)(u:c.toNat*a.toNat+a.toNat≤4294967296):
 ∃t,t<m.toNat∧(gC x m b c a).toNat=c.toNat*a.toNat+(b.toNat+t)%a.toNat:=by
 have d:=Tk _ m (Tj x) h1 h2;unfold gC;generalize((x&&&4294967295#64)*(x&&&4294967295#64))>>>32=e at d⊢;generalize((e*m)>>>32:BitVec 64)=z at d⊢;refine⟨m.toNat-1-z.toNat,by omega,?_⟩;have f:(1#64).toNat=1:=rfl;have g:(b+m-(z+1#64)).toNat=b.toNat+(m.toNat-1-z.toNat):=by
  have h:(z+1#64).toNat=z.toNat+1:=by rw[eD,f];omega
  have i:(b+m).toNat=b.toNat+m.toNat:=by rw[eD];omega
  rw[kH,h,i];omega
 have j:(a.setWidth 64).toNat=a.toNat:=by rw[kJ];omega
 have v:=qu (b.toNat+(m.toNat-1-z.toNat)) (show 0<a.toNat by omega);have l:(((b+m-(z+1#64))%a.setWidth 64).setWidth 32).toNat=(b.toNat+(m.toNat-1-z.toNat))%a.toNat:=by
  rw[kJ,ow,g,j];exact dM (by omega)
 have o:(c*a).toNat=c.toNat*a.toNat:=by rw[iG];exact dM (by omega)
 rw[eD,l,o];exact dM (by omega)
def ahD(x m c:BitVec 64)(b a:BitVec 32)(h:1≤a.toNat)(i:b.toNat*a.toNat+a.toNat≤4294967296):
 ∃r,r<a.toNat∧(gC x m c b a).toNat=b.toNat*a.toNat+r:=by
 unfold gC;generalize c+m-((((x&&&4294967295#64)*(x&&&4294967295#64))>>>32*m)>>>32+1#64)=v;have j:=a.isLt;have d:(a.setWidth 64).toNat=a.toNat:=by rw[kJ];omega
 have e:=qu v.toNat (show 0<a.toNat by omega);refine⟨v.toNat%a.toNat,e,?_⟩;have f:((v%a.setWidth 64).setWidth 32).toNat=v.toNat%a.toNat:=by
  rw[kJ,ow,d];exact dM (by omega)
 have g:(b*a).toNat=b.toNat*a.toNat:=by rw[iG];exact dM (by omega)
 rw[eD,f,g];exact dM (by omega)
def ahE(b:1≤p.toNat)(a:k.toNat<p.toNat):(eI x p n sl k).toNat<p.toNat:=by
 unfold eI;split
 ·exact a
 ·rw[ow];exact qu _ (by omega)
def ahF{z:Nat}(h1:6≤z)(h2:z≤192):1≤((2^32-1+z)%2^32)%2^64∧((2^32-1+z)%2^32)%2^64≤z:=by omega
def Tm{ln az ix:BitVec 32}(w:1≤p.toNat)(y:k.toNat<p.toNat)(N:sl.toNat<4)(O:ix.toNat<az.toNat)(h2:2≤az.toNat)(P:az.toNat≤64)(A:ln.toNat=4*az.toNat)(Q:p.toNat*ln.toNat≤65536):
 ∃c r,c<p.toNat∧r<ln.toNat∧(cq x ln az p n sl k ix).toNat=c*ln.toNat+r∧(c=k.toNat∨r/az.toNat≠sl.toNat):=by
 have j:=ahE (x:=x) (n:=n) (sl:=sl) w y;have B:((eI x p n sl k).toNat+1)*ln.toNat≤p.toNat*ln.toNat:=fQ _ (by omega);rw[jR]at B;unfold cq;by_cases f:k=eI x p n sl k
 ·obtain⟨r,C,D⟩:=ahD x ((if ix=0#32∨k=eI x p n sl k then gl az n sl k ix (eI x p n sl k)-1#32 else gl az n sl k ix (eI x p n sl k)).setWidth 64) ((if n=0#32 then 0#32 else((sl+1#32)%4#32)*az).setWidth 64) (eI x p n sl k) ln (by omega) (by omega);exact⟨_,r,j,C,D,.inl (by rw[←f])⟩
 ·have E:¬(n=0#32∧sl=0#32):=fun h=>f (by unfold eI;rw[av h]);generalize R:eI x p n sl k=c at *;have l:(1#32).toNat=1:=rfl;have F:(3#32).toNat=3:=rfl;have T:=az.isLt;by_cases d:n=0#32
  ·have s:sl≠0#32:=fun a=>E ⟨d,a⟩;have H:1≤sl.toNat:=by
    rcases qv sl.toNat with a|a
    ·exact absurd (nc a) s
    ·exact a
   have m:gl az n sl k ix c=sl*az:=by unfold gl;rw[av d,ak (fun h=>h.elim s f)]
   have U:sl.toNat*az.toNat≤3*az.toNat:=fQ _ (by omega);have V:1*az.toNat≤sl.toNat*az.toNat:=fQ _ H;have e:(sl*az).toNat=sl.toNat*az.toNat:=by rw[iG];exact dM (by omega)
   rw[m,av d];have o:∀b:BitVec 32,(b=sl*az-1#32∨b=sl*az)→1≤(b.setWidth 64).toNat∧(b.setWidth 64).toNat≤sl.toNat*az.toNat:=by
    rintro b (rfl|rfl)
    ·rw[kJ,kH,e,l];omega
    ·rw[kJ,e];omega
   have q:=o (if ix=0#32∨k=c then sl*az-1#32 else sl*az) (by split<;>simp);obtain⟨t,I,i⟩:=Tl x ((if ix=0#32∨k=c then sl*az-1#32 else sl*az).setWidth 64) ((0#32:BitVec 32).setWidth 64) c ln q.1 (by omega) (by decide) (by omega) (by omega) (by omega);refine⟨c.toNat,t,j,by omega,?_,.inr fun a=>?_⟩
   ·rw[i];have:((0#32:BitVec 32).setWidth 64).toNat=0:=rfl;rw[this,cM,dM (by omega)]
   ·have:t/az.toNat<sl.toNat:=By (by rw[gU];omega);omega
  ·have m:gl az n sl k ix c=3#32*az:=by unfold gl;rw[ak d,ak f]
   have e:(3#32*az).toNat=3*az.toNat:=by rw[iG,F];exact dM (by omega)
   rw[m,ak d];have o:∀b:BitVec 32,(b=3#32*az-1#32∨b=3#32*az)→1≤(b.setWidth 64).toNat∧(b.setWidth 64).toNat≤3*az.toNat:=by
    rintro b (rfl|rfl)
    ·have u:6≤3*az.toNat∧3*az.toNat≤192:=by omega
     rw[kJ,kH,e,l];exact ahF u.1 u.2
    ·rw[kJ,e];constructor<;>omega
   have q:=o (if ix=0#32∨k=c then 3#32*az-1#32 else 3#32*az) (by split<;>simp);have J:((sl+1#32)%4#32).toNat=(sl.toNat+1)%4:=by
    rw[ow,eD,l,show(4#32).toNat=4 from rfl];omega
   have W:(sl.toNat+1)%4<4:=qu _ (by decide);have K:((sl.toNat+1)%4)*az.toNat≤3*az.toNat:=fQ _ (by omega);have v:((((sl+1#32)%4#32)*az).setWidth 64).toNat=((sl.toNat+1)%4)*az.toNat:=by
    rw[kJ,iG,J];have L:=K;generalize((sl.toNat+1)%4)*az.toNat=z at L⊢;omega
   obtain⟨t,I,i⟩:=Tl x ((if ix=0#32∨k=c then 3#32*az-1#32 else 3#32*az).setWidth 64) ((((sl+1#32)%4#32)*az).setWidth 64) c ln q.1 (by omega) (by rw[v];omega) (by omega) (by omega) (by omega);rw[v]at i;refine⟨c.toNat,_,j,qu _ (by omega),i,.inr fun a=>?_⟩;rw[A]at a;have X:t<3*az.toNat:=by omega
   have Y:=Nat.div_add_mod (((sl.toNat+1)%4)*az.toNat+t) (4*az.toNat);generalize Z:az.toNat=S at *;have M:sl.toNat=0∨sl.toNat=1∨sl.toNat=2∨sl.toNat=3:=by omega
   rcases M with h|h|h|h<;>rw[h]at a<;>simp only[Nat.reduceAdd,Nat.reduceMod,Nat.one_mul,w9,cM]at a
   ·rw[dM (by omega)]at a;have:1≤(S+t)/S:=(Bx (by omega)).2 (by omega);omega
   ·rcases cv (2*S+t) (4*S)with g|g
    ·rw[dM g]at a;have:2≤(2*S+t)/S:=(Bx (by omega)).2 (by omega);omega
    ·rw[Wn g,dM (by omega)]at a;have:(2*S+t-4*S)/S<1:=By (by omega);omega
   ·rcases cv (3*S+t) (4*S)with g|g
    ·rw[dM g]at a;have:3≤(3*S+t)/S:=(Bx (by omega)).2 (by omega);omega
    ·rw[Wn g,dM (by omega)]at a;have:(3*S+t-4*S)/S<2:=By (by omega);omega
   ·rw[dM (by omega)]at a;have:t/S<3:=By (by omega);omega
end
section
open Go.aA
theorem ahG(x m Q:BitVec 64)(a S:BitVec 32)(h1:1≤m.toNat)(h2:m.toNat<65536)(Z:Q.toNat<65536)(o:1≤S.toNat)(r:S.toNat<65536)(s:a.toNat*S.toNat+S.toNat≤4294967296):
 o9 (x&&&4294967295#64) (m.toNat:Int)<m.toNat∧(gC x m Q a S).toNat=a.toNat*S.toNat+(Q.toNat+(m.toNat-1-o9 (x&&&4294967295#64) (m.toNat:Int)))%S.toNat:=by
 have b:=Tk _ m (Tj x) h1 h2;have c:o9 (x&&&4294967295#64) (m.toNat:Int)=((((x&&&4294967295#64)*(x&&&4294967295#64))>>>32*m)>>>32:BitVec 64).toNat:=by
  unfold o9;rw[show BitVec.ofInt 64 (m.toNat:Int)=m by rw[uF,V7,V8],BitVec.mul_comm m]
 rw[c];refine⟨b,?_⟩;unfold gC;generalize((x&&&4294967295#64)*(x&&&4294967295#64))>>>32=d at b⊢;generalize((d*m)>>>32:BitVec 64)=z at b⊢;have e:(1#64).toNat=1:=rfl;have f:(Q+m-(z+1#64)).toNat=Q.toNat+(m.toNat-1-z.toNat):=by
  have g:(z+1#64).toNat=z.toNat+1:=by rw[eD,e];omega
  have h:(Q+m).toNat=Q.toNat+m.toNat:=by rw[eD];omega
  rw[kH,g,h];omega
 have i:(S.setWidth 64).toNat=S.toNat:=by rw[kJ];omega
 have t:=qu (Q.toNat+(m.toNat-1-z.toNat)) (show 0<S.toNat by omega);have j:(((Q+m-(z+1#64))%S.setWidth 64).setWidth 32).toNat=(Q.toNat+(m.toNat-1-z.toNat))%S.toNat:=by
  rw[kJ,ow,f,i];exact dM (by omega)
 have l:(a*S).toNat=a.toNat*S.toNat:=by rw[iG];exact dM (by omega)
 rw[eD,j,l];exact dM (by omega)
theorem gQ{b:BitVec 32}:b=0#32↔b.toNat=0:=⟨fun a=>by rw[a];rfl,fun a=>nc a⟩
section
variable{x:BitVec 64}{S R p n sl k T:BitVec 32}{q P N Q U aq:Nat}
variable(D:1≤P)(E:P≤8)(F:U<P)(Z:Q<4)(b7:aq<q)(H:2≤q)(I:q≤64)(V:N=0→Q=0→2≤aq)
variable(A:S.toNat=4*q)(W:R.toNat=q)(B:p.toNat=P)(J:n.toNat=N)(X:sl.toNat=Q)(C:k.toNat=U)(Y:T.toNat=aq)
include D E F Z b7 H I V A W B J X C Y
theorem Tn:((eI x p n sl k).toNat:Int)=j4 x P N U Q:=by
 unfold eI j4 pe;by_cases c:N=0∧Q=0
 ·rw[av ⟨gQ.2 (by omega),gQ.2 (by omega)⟩,av ⟨by omega,by omega⟩];omega
 ·rw[ak (fun h=>c ⟨by have:=gQ.1 h.1;omega,by have:=gQ.1 h.2;omega⟩),ak (fun h=>c ⟨by omega,by omega⟩)];have a:(BitVec.ofInt 64 (P:Int)).toNat=P:=by rw[uF,gZ];omega
  have b:(x>>>32:BitVec 64).toNat<4294967296:=by
   rw[y7,w5];have:=x.isLt;omega
  rw[ow,ow,a,B,kJ,dM b]
theorem ahH:k=eI x p n sl k↔pe (x>>>32) P N U Q=(U:Int):=by
 have a:=Tn (x:=x) D E F Z b7 H I V A W B J X C Y;unfold j4 at a;constructor
 ·intro h;rw[←a,←h,C]
 ·intro h;rw[h]at a;exact nc (by omega)
theorem ahI:(((if T=0#32∨k=eI x p n sl k then gl R n sl k T (eI x p n sl k)-1#32 else gl R n sl k T (eI x p n sl k)).setWidth 64:BitVec 64).toNat:Int)=mh (x>>>32) P ((4*q:Nat):Int) N U Q aq:=by
 have g:=ahH (x:=x) D E F Z b7 H I V A W B J X C Y;have r:(1#32).toNat=1:=rfl;have s:(3#32).toNat=3:=rfl;have z:Q*q≤3*q:=fQ _ (by omega);have m:Q≠0→1*q≤Q*q:=fun h=>fQ _ (by omega);have i:(sl*R).toNat=Q*q:=by rw[iG,X,W];exact dM (by omega)
 have t:(sl*R+T).toNat=Q*q+aq:=by rw[eD,i,Y];exact dM (by omega)
 have j:(3#32*R).toNat=3*q:=by rw[iG,s,W];exact dM (by omega)
 have u:(3#32*R+T).toNat=3*q+aq:=by rw[eD,j,Y];exact dM (by omega)
 have v:((4*q:Nat):Int).tdiv 4=(q:Int):=by rw[show((4*q:Nat):Int)=(q:Int)*4 by omega];exact Es _ (by decide)
 have w:n6 ((4*q:Nat):Int) N Q=if N=0 then((Q*q:Nat):Int)else((3*q:Nat):Int):=by
  unfold n6;rw[v];by_cases c:N=0
  ·rw[av (by omega),av c,Bz]
  ·rw[ak (by omega),ak c];omega
 unfold mh;rw[w];have y:Q=0→N=0→k=eI x p n sl k:=fun h1 h2=>by unfold eI;rw[av ⟨gQ.2 (by omega),gQ.2 (by omega)⟩]
 generalize eI x p n sl k=e at *;have qA:∀b:BitVec 32,1≤b.toNat→(b-1#32).toNat=b.toNat-1:=fun b K=>by
  have:=b.isLt;rw[kH,r];omega
 have au:∀b:BitVec 32,(b.setWidth 64:BitVec 64).toNat=b.toNat:=fun b=>by
  have:=b.isLt;rw[kJ];omega
 rw[au];by_cases c:N=0
 ·rw[av c];by_cases a:k=e
  ·have d:gl R n sl k T e=sl*R+T:=by unfold gl;rw[av (gQ.2 (by omega)),av (.inr a)]
   rw[av (.inr a),av (g.1 a),d];have:1≤Q*q+aq:=by
    by_cases f:Q=0
    ·have:=V c f;omega
    ·have:=m f;omega
   rw[qA _ (by omega),t];omega
  ·have f:Q≠0:=fun h=>a (y h c);have:=m f;have d:gl R n sl k T e=sl*R:=by unfold gl;rw[av (gQ.2 (by omega)),ak (fun h=>h.elim (fun h=>f (by have:=gQ.1 h;omega)) a)]
   rw[ak (fun h=>a (g.2 h)),d];by_cases l:aq=0
   ·rw[av (.inl (gQ.2 (by omega))),av (by omega),qA _ (by omega),i];omega
   ·rw[ak (fun h=>h.elim (fun h=>l (by have:=gQ.1 h;omega)) a),ak (by omega),i]
 ·rw[ak c];have o:n≠0#32:=fun h=>c (by have:=gQ.1 h;omega);by_cases a:k=e
  ·have d:gl R n sl k T e=3#32*R+T:=by unfold gl;rw[ak o,av a]
   rw[av (.inr a),av (g.1 a),d,qA _ (by omega),u];omega
  ·have d:gl R n sl k T e=3#32*R:=by unfold gl;rw[ak o,ak a]
   rw[ak (fun h=>a (g.2 h)),d];by_cases l:aq=0
   ·rw[av (.inl (gQ.2 (by omega))),av (by omega),qA _ (by omega),j];omega
   ·rw[ak (fun h=>h.elim (fun h=>l (by have:=gQ.1 h;omega)) a),ak (by omega),j]
theorem ahJ:(((if n=0#32 then 0#32 else((sl+1#32)%4#32)*R).setWidth 64:BitVec 64).toNat:Int)=q5 ((4*q:Nat):Int) N Q:=by
 have a:(1#32).toNat=1:=rfl;have b:((4*q:Nat):Int).tdiv 4=(q:Int):=by rw[show((4*q:Nat):Int)=(q:Int)*4 by omega];exact Es _ (by decide)
 unfold q5;by_cases c:N=0
 ·rw[av (gQ.2 (by omega)),av (by omega)];rfl
 ·rw[ak (fun h=>c (by have:=gQ.1 h;omega)),ak (by omega),b];have d:((sl+1#32)%4#32).toNat=(Q+1)%4:=by
   rw[ow,eD,a,X,show(4#32).toNat=4 from rfl];omega
  have e:((Q+1)%4)*q≤3*q:=fQ _ (by omega);have f:((Q:Int)+1).tmod 4=(((Q+1)%4:Nat):Int):=by rw[oz (by omega)];omega
  rw[kJ,iG,d,W,f,←Bz];generalize((Q+1)%4)*q=z at e⊢;omega
variable [aR][aF][bq]
theorem ahK:(cq x S R p n sl k T).toNat=(j4 x P N U Q).toNat*(4*q)+(n7 x P ((4*q:Nat):Int) N U Q aq).toNat∧(j4 x P N U Q).toNat<P∧(n7 x P ((4*q:Nat):Int) N U Q aq).toNat<4*q:=by
 have a:((4*q:Nat):Int).tdiv 4=(q:Int):=by rw[show((4*q:Nat):Int)=(q:Int)*4 by omega];exact Es _ (by decide)
 have g:=Tn (x:=x) D E F Z b7 H I V A W B J X C Y;have d:=ahI (x:=x) D E F Z b7 H I V A W B J X C Y;have e:=ahJ D E F Z b7 H I V A W B J X C Y;have f:8≤((4*q:Nat):Int)∧((4*q:Nat):Int)≤256∧((4*q:Nat):Int).tdiv 4*4=((4*q:Nat):Int):=⟨by omega,by omega,by rw[a];omega⟩;have o:=S9 (y:=x>>>32) (la:=P) (co:=((4*q:Nat):Int)) (pa:=N) (ln:=U) (sl:=Q) (pl:=aq) f (by omega) ⟨by omega,by omega⟩ ⟨by omega,by rw[a];omega⟩ (fun h1 h2=>by have:=V (by omega) (by omega);omega);have r:=Ta (w:=x) (la:=P) (co:=((4*q:Nat):Int)) (pa:=N) (ln:=U) (sl:=Q) (pl:=aq) f (by omega) ⟨by omega,by omega⟩ ⟨by omega,by rw[a];omega⟩ (fun h1 h2=>by have:=V (by omega) (by omega);omega);have s:=S8 (w:=x) (la:=P) (pa:=N) (ln:=U) (sl:=Q) ⟨by omega,by omega⟩ ⟨by omega,by omega⟩;refine⟨?_,by omega,by omega⟩;have cQ:0≤q5 ((4*q:Nat):Int) N Q∧q5 ((4*q:Nat):Int) N Q≤192:=by
  unfold q5;split
  ·omega
  ·have h:((Q+1)%4)*q≤3*q:=fQ _ (by omega);rw[a,show((Q:Int)+1).tmod 4=(((Q+1)%4:Nat):Int) by rw[oz (by omega)];omega,←Bz];generalize((Q+1)%4)*q=z at h⊢;omega
 unfold cq;generalize((if T=0#32∨k=eI x p n sl k then gl R n sl k T (eI x p n sl k)-1#32 else gl R n sl k T (eI x p n sl k)).setWidth 64:BitVec 64)=m at d⊢;generalize((if n=0#32 then 0#32 else((sl+1#32)%4#32)*R).setWidth 64:BitVec 64)=b at e⊢;generalize eI x p n sl k=c at g⊢;have t:c.toNat*S.toNat≤8*256:=xd (by omega) (by omega);obtain⟨i,j⟩:=ahG x m b c S (by omega) (by omega) (by omega) (by omega) (by omega) (by omega);rw[j,A];have l:c.toNat=(j4 x P N U Q).toNat:=by omega
 rw[l];congr 1;unfold n7 Gz q4;rw[←d,←e,oz (by omega)];generalize o9 (x&&&4294967295#64) (m.toNat:Int)=z at i⊢;rw[show(b.toNat:Int)+(m.toNat:Int)-1-(z:Int)=((b.toNat+(m.toNat-1-z):Nat):Int) by omega,←Ob,eC]
end
end
section
open Go.aA
variable [aR][aF][bq]
variable{M:Nat}{b:BitVec 32}{f:cw}{X:U 64}
def To(f:cw)(X T:U 64)(a c e:Nat)(i:Int):∀k,(iter p6 k ⟨f,X,T,a,c,e,i⟩).X.n=X.n
 |0=>rfl|k+1=>by
  rw[gB];have h:=To f X T a c e i k;generalize iter p6 k ⟨f,X,T,a,c,e,i⟩=d at h;obtain⟨q,g,j,l,m,o,p⟩:=d;exact(show(vS g j l m o p).n=g.n from rfl).trans h
def Tp(f:cw)(X:U 64)(a b c:Nat):(fl f X a b c).n=X.n:=by
 unfold fl Gd;rw[To,(RD f X a b c).1]
structure ahL(f:cw)(M:Nat)(ln az p n sl k ix:BitVec 32):Prop where
 off:(k*ln+sl*az+ix).toNat<M
 ao9:ek f (aT (k*ln+sl*az+ix)) false=true
 apa:ek f (aT (k*ln+sl*az+ix)) true=true
 prev:(eA ln sl ix (k*ln+sl*az+ix)).toNat<M
 apb:ek f (aT (eA ln sl ix (k*ln+sl*az+ix))) false=true
 ref:∀x,(cq x ln az p n sl k ix).toNat<M
 apc:∀x,ek f (aT (cq x ln az p n sl k ix)) false=true
structure Ds(f:cw)(M:Nat)(ln az p n sl k:BitVec 32):Prop where
 hp:p≠0#32
 X7:ln≠0#32
 X8:az.toNat≤64
 place:∀ix:BitVec 32,ix.toNat<az.toNat→(n=0#32→sl=0#32→ix≠0#32)→ahL f M ln az p n sl k ix
structure GW(d:l8):Prop where
 ok:Ds d.f d.M d.ln d.az d.p d.n d.sl d.k
 off:d.off=d.k*d.ln+d.sl*d.az+d.ix
 n:d.X.n=d.M*128
 ix:d.ix.toNat≤d.az.toNat
 two:d.n=0#32→d.sl=0#32→d.ix≠0#32
open Classical in
def LX(d:l8):Bool:=decide (GW d)
def LY(a:aI)(d:List ah):Option l8:=
 match a with
 |⟨[.num (.aD n),.num (.aD sl),.num (.aD k),.atom (.exact e),.ref (.ptr 1 (.c 0)),.ref (.ptr 2 (.c 0)),.ref (.ptr 3 (.c 0)),.ref (.ptr 4 (.c 0)),.ref (.ptr 5 (.c 0)),.ref (.ptr 6 (.c 0)),.ref (.ptr 7 (.c 0)),.atom .aa,.atom .aa,.atom .aa,.atom .aa,.ref (.ptr 8 (.c 0)),.ref (.ptr 9 (.c 0)),.ref (.ptr 10 (.c 0)),.num (.aD g),.num (.aD h),.atom .aa,.atom .aa,.atom .aa],[]⟩=>
  match d with
  |[⟨.lim f X,.own⟩,⟨.gen [.num (.int .i64 (.s m))],.ro⟩,⟨.gen [.num (.aD mem)],.ro⟩,⟨.gen [.num (.aD tm)],.ro⟩,⟨.gen [.num (.aD i)],.ro⟩,⟨.gen [.num (.aD j)],.ro⟩,⟨.gen [.ref (.sm 0 (.s M) 128)],.ro⟩,⟨.gen [.num (.aD p)],.ro⟩,⟨.gen l,.own⟩,⟨.gen o,.own⟩,⟨.gen q,.ro⟩]=>
   (match jZ 128 l with
   |some ad=>
   (match jZ 128 o with
   |some r=>
   (match jZ 128 q with
   |some z=>some ⟨f,X,ad,r,z,M,m,mem,tm,i,j,p,n,sl,k,g,h,e⟩|none=>none)
   |none=>none)
   |none=>none)
  |_=>none
 |_=>none
def cc:eN l8 where
 qR:=⟨[.num (.aD 0#32),.num (.aD 0#32),.num (.aD 0#32),.atom (.exact undef),.P 1,.P 2,.P 3,.P 4,.P 5,.P 6,.P 7,.aa,.aa,.aa,.aa,.P 8,.P 9,.P 10,.num (.aD 0#32),.num (.aD 0#32),.aa,.aa,.aa],[]⟩
 qS:=[⟨.lim (fun _ _=>false) (U.zero 64 0),.own⟩,⟨.gen [.aq 0],.ro⟩,⟨.gen [.num (.aD 0#32)],.ro⟩,⟨.gen [.num (.aD 0#32)],.ro⟩,⟨.gen [.num (.aD 0#32)],.ro⟩,⟨.gen [.num (.aD 0#32)],.ro⟩,⟨.gen [.ref (.sm 0 (.s 0) 128)],.ro⟩,⟨.gen [.num (.aD 0#32)],.ro⟩,⟨.gen (List.replicate 128 (.au 0#64)),.own⟩,⟨.gen (List.replicate 128 (.au 0#64)),.own⟩,⟨.gen (List.replicate 128 (.au 0#64)),.ro⟩]
 d0:=⟨fun _ _=>false,0,0,0,0,0,0,0,0,0,0,0,0,0,0,0,0,.bool false⟩
 read:=LY
 ay:=eO
 next:=dG bw
 rem:=fun d=>d.az.toNat-d.ix.toNat
 aS:=LX
 out:=.exit 0
def ahM(a:aI)(c:List ah)(d:l8)(h:cc.read a c=some d):(a,c)=cc.ay d:=by
 replace h:LY a c=some d:=h;unfold LY at h;split at h
 case h_2=>cases h
 split at h
 case h_2=>cases h
 split at h
 case h_2=>cases h
 rename_i e;obtain⟨rfl,_⟩:=kW e;split at h
 case h_2=>cases h
 rename_i g;obtain⟨rfl,_⟩:=kW g;split at h
 case h_2=>cases h
 rename_i i;obtain⟨rfl,_⟩:=kW i;cases h;rfl
def ahN:dc Tryz.prog bB (aj 44) (bN Tryz.prog 44) (bg Tryz.prog 44 0) (bZ (fM bw) aQ 44 0):=iw Gf (cK _) 44 0 C2 (by rw[show(cH Tryz.prog 44).length=1 by kernel_rfl];omega)
def qc(b:BitVec 32):aT b=b.toNat*128:=by simp[aT]
def ahO{a c:BitVec 32}(d:X.n=M*128)(j:a.toNat<M)(k:b.toNat<M)(l:c.toNat<M)(e:ek f (aT a) false=true)(g:ek f (aT a) true=true)(h:ek f (aT b) false=true)(i:ek f (aT c) false=true):l7 f X a b c=true:=by
 unfold l7;refine bl ⟨?_,?_,?_,e,g,h,i⟩<;>rw[qc,d]<;>omega
def ahP(a:X.n=M*128)(h:b.toNat<M):aT b+0<X.n:=by rw[qc,a];omega
def GQ(h:b.toNat<M):cS M b=true:=by
 unfold cS;rw[dH];exact⟨bl (by omega),bl (by omega)⟩
def ahQ{a:Nat}{w:Bool}(h:ek f a w=true):f (a+0) w=true:=yb h (i:=0) (by omega) (by omega)
def ahR:eH Tryz.prog bB (aj 44) (bN Tryz.prog 44) (bg Tryz.prog 44 0) cc.T.told:=by
 refine cc.j0 ahN (by intro k F;have F:k∈([]:List ah):=F;cases F) (by intro h;cases h) ahM ?_ ?_
 ·rintro⟨f,X,ad,r,z,M,m,mem,tm,e,i,p,n,sl,k,a,d,s⟩ I C x;have C:GW ⟨f,X,ad,r,z,M,m,mem,tm,e,i,p,n,sl,k,a,d,s⟩:=@aZ _ (Classical.propDecidable _) C;have x:i.toNat-a.toNat=I+1:=x;obtain⟨ok,D,y,J,h2⟩:=C;have D:d=k*e+sl*i+a:=D;have y:X.n=M*128:=y;have J:a.toNat≤i.toNat:=J;have h2:n=0#32→sl=0#32→a≠0#32:=h2;have H:a.toNat<i.toNat:=by omega
  have Y:i.toNat≤64:=ok.X8;obtain⟨A,K,L,j,l,N,Q⟩:=ok.place a H h2;have A:(k*e+sl*i+a).toNat<M:=A;rw[←D]at A K L j l;have Z:decide (a.toNat<i.toNat)=true:=bl H;have O:(a+1#32).toNat=a.toNat+1:=by rw[eD];simp;omega
  have P:a%128#32=a:=by
   apply nc;rw[ow];exact dM (by show a.toNat<128;omega)
  have aa:vV a=true:=by unfold vV;rw[P];exact bl (by simp;omega)
  have ab:cS 128 (a%128#32)=true:=by rw[P];exact GQ (by omega)
  have b7:mV p e n sl a=true:=bl ⟨ok.hp,ok.X7,h2⟩;refine⟨?_,?_,?_,(show(eO (dG bw ⟨f,X,ad,r,z,M,m,mem,tm,e,i,p,n,sl,k,a,d,s⟩)).2.length=11 by kernel_rfl).trans (show(eO ⟨f,X,ad,r,z,M,m,mem,tm,e,i,p,n,sl,k,a,d,s⟩).2.length=11 by kernel_rfl).symm⟩
  ·show∃R S cs,eg 11 S (eO (dG bw ⟨f,X,ad,r,z,M,m,mem,tm,e,i,p,n,sl,k,a,d,s⟩)) (bZ (fM bw) aQ 44 0 (eO ⟨f,X,ad,r,z,M,m,mem,tm,e,i,p,n,sl,k,a,d,s⟩).1 ⟨(eO ⟨f,X,ad,r,z,M,m,mem,tm,e,i,p,n,sl,k,a,d,s⟩).2,bJ,R,[]⟩)=some (.normal,eO (dG bw ⟨f,X,ad,r,z,M,m,mem,tm,e,i,p,n,sl,k,a,d,s⟩),cs)∧∀V∈cs,V=true;have pS:(decide (a.toNat<i.toNat)==true)=true:=by simp[H]
   by_cases q:m=1;by_cases hi:a=0#32;by_cases o:sl=0#32;have c:eA e sl a d=d-1#32+e:=(av ⟨hi,o⟩);rw[c]at j l;have g:dF m n sl:=.inl q;simp only[dG,c,uK g,uK hi,uG,Et,Eu,pN];refine⟨_,_,_,adx ..,?_⟩;rotate_left;have c:eA e sl a d=d-1#32:=(ak fun h=>o h.2);rw[c]at j l;have g:dF m n sl:=.inl q;simp only[dG,c,uK g,uK hi,uG,Et,Eu,pN];refine⟨_,_,_,ady ..,?_⟩;rotate_left;have c:eA e sl a d=d-1#32:=(ak fun h=>hi h.1);rw[c]at j l;have g:dF m n sl:=.inl q;simp only[dG,c,uK g,uL hi,uG,Et,Eu,pN];refine⟨_,_,_,adz ..,?_⟩;rotate_left;by_cases v:m=2;by_cases w:n=0#32;by_cases t:BitVec.ult sl 2#32=true;have u:sl.toNat<(2#32).toNat:=by simpa[BitVec.ult]using t
   by_cases hi:a=0#32;by_cases o:sl=0#32;have c:eA e sl a d=d-1#32+e:=(av ⟨hi,o⟩);rw[c]at j l;have g:dF m n sl:=.inr ⟨v,w,t⟩;simp only[dG,c,uK g,uK hi,uG,Et,Eu,pN];have E:(decide (sl.toNat<(2#32).toNat)==true)=true:=by rw[eT];exact bl u
   refine⟨_,_,_,adA ..,?_⟩;rotate_left;have c:eA e sl a d=d-1#32:=(ak fun h=>o h.2);rw[c]at j l;have g:dF m n sl:=.inr ⟨v,w,t⟩;simp only[dG,c,uK g,uK hi,uG,Et,Eu,pN];have E:(decide (sl.toNat<(2#32).toNat)==true)=true:=by rw[eT];exact bl u
   refine⟨_,_,_,adB ..,?_⟩;rotate_left;have c:eA e sl a d=d-1#32:=(ak fun h=>hi h.1);rw[c]at j l;have g:dF m n sl:=.inr ⟨v,w,t⟩;simp only[dG,c,uK g,uL hi,uG,Et,Eu,pN];have E:(decide (sl.toNat<(2#32).toNat)==true)=true:=by rw[eT];exact bl u
   refine⟨_,_,_,adC ..,?_⟩;rotate_left;have u:¬sl.toNat<(2#32).toNat:=by simpa[BitVec.ult]using t
   have W:sl≠0#32:=fun B=>u (by rw[B];decide);by_cases hi:a=0#32;have o:sl≠0#32:=W;have c:eA e sl a d=d-1#32:=(ak fun h=>o h.2);rw[c]at j l;have g:¬dF m n sl:=fun h=>h.elim q fun h=>t h.2.2;simp only[dG,c,uL g,zd,pN];have E:(decide (sl.toNat<(2#32).toNat)==false)=true:=by rw[eT];exact jQ u
   refine⟨_,_,_,adJ ..,?_⟩;rotate_left;have c:eA e sl a d=d-1#32:=(ak fun h=>hi h.1);rw[c]at j l;have g:¬dF m n sl:=fun h=>h.elim q fun h=>t h.2.2;simp only[dG,c,uL g,zd,pN];have E:(decide (sl.toNat<(2#32).toNat)==false)=true:=by rw[eT];exact jQ u
   refine⟨_,_,_,adK ..,?_⟩;rotate_left;by_cases hi:a=0#32;by_cases o:sl=0#32;have c:eA e sl a d=d-1#32+e:=(av ⟨hi,o⟩);rw[c]at j l;have g:¬dF m n sl:=fun h=>h.elim q fun h=>w h.2.1;simp only[dG,c,uL g,zd,pN];refine⟨_,_,_,adG ..,?_⟩;rotate_left;have c:eA e sl a d=d-1#32:=(ak fun h=>o h.2);rw[c]at j l;have g:¬dF m n sl:=fun h=>h.elim q fun h=>w h.2.1;simp only[dG,c,uL g,zd,pN];refine⟨_,_,_,adH ..,?_⟩;rotate_left;have c:eA e sl a d=d-1#32:=(ak fun h=>hi h.1);rw[c]at j l;have g:¬dF m n sl:=fun h=>h.elim q fun h=>w h.2.1;simp only[dG,c,uL g,zd,pN];refine⟨_,_,_,adI ..,?_⟩;rotate_left;by_cases hi:a=0#32;by_cases o:sl=0#32;have c:eA e sl a d=d-1#32+e:=(av ⟨hi,o⟩);rw[c]at j l;have g:¬dF m n sl:=fun h=>h.elim q fun h=>v h.1;simp only[dG,c,uL g,zd,pN];refine⟨_,_,_,adD ..,?_⟩;rotate_left;have c:eA e sl a d=d-1#32:=(ak fun h=>o h.2);rw[c]at j l;have g:¬dF m n sl:=fun h=>h.elim q fun h=>v h.1;simp only[dG,c,uL g,zd,pN];refine⟨_,_,_,adE ..,?_⟩;rotate_left;have c:eA e sl a d=d-1#32:=(ak fun h=>hi h.1);rw[c]at j l;have g:¬dF m n sl:=fun h=>h.elim q fun h=>v h.1;simp only[dG,c,uL g,zd,pN];refine⟨_,_,_,adF ..,?_⟩;rotate_left
   all_goals repeat'(refine ax ?_ ?_)
   all_goals first|exact aV|rfl|assumption|exact ahO y A j (N _) K L l (Q _)|exact GQ (N _)|exact GQ j|exact GQ A|exact ahQ l|exact bl (ahP y j)|(simp[*];done)
  ·refine@bl _ (Classical.propDecidable _) (show GW _ from⟨ok,?_,(Tp ..).trans y,?_,fun _ _ B=>?_⟩)
   ·show d+1#32=k*e+sl*i+(a+1#32);rw[D,Ig]
   ·show(a+1#32).toNat≤i.toNat
    omega
   ·have B:a+1#32=0#32:=B;rw[B]at O;simp at O
  ·show i.toNat-(a+1#32).toNat=I;omega
 ·rintro⟨f,X,ad,r,z,M,m,mem,tm,e,i,p,n,sl,k,a,d,s⟩ C x;have x:i.toNat-a.toNat=0:=x;refine⟨[false],none,_,adL bw f X ad r z M m mem tm e i p n sl k a d s,?_⟩;refine ax ?_ aV;rw[eT];exact jQ (by omega)
def LZ:cP:=cc.T.told
def ahS:Told 44 0 LZ:=ahR.run
end
section
open Go.aA
variable [aR][aF][bq]
def c9:U 64:=U.of (List.replicate 128 0#64)
def jG(m:Int)(mem tm n sl k:BitVec 32):U 64:=U.of ([n.setWidth 64,k.setWidth 64,sl.setWidth 64,mem.setWidth 64,tm.setWidth 64,BitVec.ofInt 64 m]++List.replicate 122 0#64)
def yF:List (List Bool):=[[false],[true,false]]
def yG:List (List Bool):=[(bE 3 3),(bE 4 7)]
def L0:List (List Bool):=[(bE 5 15),(bE 6 31),(bE 7 63)]
def ug(n sl k:BitVec 32)(d:Value)(a b c i:af):aI:=⟨[.num (.aD n),.num (.aD sl),.num (.aD k),.atom (.exact d),.ref (.ptr 1 (.c 0)),.ref (.ptr 2 (.c 0)),.ref (.ptr 3 (.c 0)),.ref (.ptr 4 (.c 0)),.ref (.ptr 5 (.c 0)),.ref (.ptr 6 (.c 0)),.ref (.ptr 7 (.c 0)),.atom .aa,.atom .aa,.atom .aa,.atom .aa,a,b,c,i,.atom .aa,.atom .aa,.atom .aa,.atom .aa],[]⟩
def jm(n sl k:BitVec 32)(a:Value)(i:af):aI:=ug n sl k a (.ptr 8 (.c 0)) (.ptr 9 (.c 0)) (.ptr 10 (.c 0)) i
def sM(f:cw)(X:U 64)(M:Nat)(m:Int)(mem tm a b p:BitVec 32):List ah:=[⟨.lim f X,.own⟩,⟨.gen [.num (.int .i64 (.s m))],.ro⟩,⟨.gen [.num (.aD mem)],.ro⟩,⟨.gen [.num (.aD tm)],.ro⟩,⟨.gen [.num (.aD a)],.ro⟩,⟨.gen [.num (.aD b)],.ro⟩,⟨.gen [.ref (.sm 0 (.s M) 128)],.ro⟩,⟨.gen [.num (.aD p)],.ro⟩]
def iR(f:cw)(X:U 64)(M:Nat)(m:Int)(mem tm a b p:BitVec 32)(ad c:U 64):List ah:=sM f X M m mem tm a b p++[⟨.gen (dS ad 128),.own⟩,⟨.gen (dS c 128),.own⟩,⟨.gen (dS c9 128),.own⟩]
def yH(f:cw)(X:U 64)(a:Value):aI×List ah:=(⟨[.atom .aa,.atom .aa,.atom .aa,.atom (.exact a),.atom .aa,.atom .aa,.atom .aa,.atom .aa,.atom .aa,.atom .aa,.atom .aa,.atom .aa,.atom .aa,.atom .aa,.atom .aa,.atom .aa,.atom .aa,.atom .aa,.atom .aa,.atom .aa,.atom .aa,.atom .aa,.atom .aa],[]⟩,[⟨.lim f X,.own⟩,⟨.gen [],.bn⟩,⟨.gen [],.bn⟩,⟨.gen [],.bn⟩,⟨.gen [],.bn⟩,⟨.gen [],.bn⟩,⟨.gen [],.bn⟩,⟨.gen [],.bn⟩,⟨.gen [],.bn⟩,⟨.gen [],.bn⟩,⟨.gen [],.bn⟩])
def ahT(d:U 64→U 64→U 64)(f:cw)(X:U 64)(M:Nat)(m:Int)(mem tm a b p n sl k:BitVec 32)(c:Value):jF 8 (b6 11) (jm n sl k c .aa,iR f X M m mem tm a b p c9 (jG m mem tm n sl k)) (hO (fM d) aQ 44 yF (ug n sl k c .aa .aa .aa .aa) ⟨sM f X M m mem tm a b p,bJ,(bE 7 127),[]⟩) .normal [((m==1)==true),((m==1)==true),((m==1)==true),((m==1)==true),((m==1)==true),((m==1)==true),((m==1)==true)]:=by show _=_;kernel_rfl
def ahU(d:U 64→U 64→U 64)(f:cw)(X:U 64)(M:Nat)(m:Int)(mem tm a b p n sl k:BitVec 32)(c:Value):jF 8 (b6 11) (jm n sl k c .aa,iR f X M m mem tm a b p c9 (jG m mem tm n sl k)) (hO (fM d) aQ 44 yF (ug n sl k c .aa .aa .aa .aa) ⟨sM f X M m mem tm a b p,bJ,(bE 14 11096),[]⟩) .normal [(decide (sl.toNat<(2#32).toNat)==true),((m==1)==false),((n==(0#32))==true),((m==1)==false),((n==(0#32))==true),((n==(0#32))==true),((m==1)==false),((m==2)==true),((m==1)==false),((m==2)==true),((m==2)==true),((m==1)==false),((m==1)==false),((m==1)==false)]:=by show _=_;kernel_rfl
def ahV(d:U 64→U 64→U 64)(f:cw)(X:U 64)(M:Nat)(m:Int)(mem tm a b p n sl k:BitVec 32)(c:Value):jF 8 (b6 11) (jm n sl k c .aa,iR f X M m mem tm a b p c9 c9) (hO (fM d) aQ 44 yF (ug n sl k c .aa .aa .aa .aa) ⟨sM f X M m mem tm a b p,bJ,(bE 10 0),[]⟩) .normal [((m==1)==false),((m==1)==false),((m==1)==false),((m==2)==false),((m==1)==false),((m==2)==false),((m==2)==false),((m==1)==false),((m==1)==false),((m==1)==false)]:=by show _=_;kernel_rfl
def ahW(d:U 64→U 64→U 64)(f:cw)(X:U 64)(M:Nat)(m:Int)(mem tm a b p n sl k:BitVec 32)(c:Value):jF 8 (b6 11) (jm n sl k c .aa,iR f X M m mem tm a b p c9 c9) (hO (fM d) aQ 44 yF (ug n sl k c .aa .aa .aa .aa) ⟨sM f X M m mem tm a b p,bJ,(bE 13 88),[]⟩) .normal [((m==1)==false),((n==(0#32))==false),((m==1)==false),((n==(0#32))==false),((n==(0#32))==false),((m==1)==false),((m==2)==true),((m==1)==false),((m==2)==true),((m==2)==true),((m==1)==false),((m==1)==false),((m==1)==false)]:=by show _=_;kernel_rfl
def ahX(d:U 64→U 64→U 64)(f:cw)(X:U 64)(M:Nat)(m:Int)(mem tm a b p n sl k:BitVec 32)(c:Value):jF 8 (b6 11) (jm n sl k c .aa,iR f X M m mem tm a b p c9 c9) (hO (fM d) aQ 44 yF (ug n sl k c .aa .aa .aa .aa) ⟨sM f X M m mem tm a b p,bJ,(bE 14 2904),[]⟩) .normal [(decide (sl.toNat<(2#32).toNat)==false),((m==1)==false),((n==(0#32))==true),((m==1)==false),((n==(0#32))==true),((n==(0#32))==true),((m==1)==false),((m==2)==true),((m==1)==false),((m==2)==true),((m==2)==true),((m==1)==false),((m==1)==false),((m==1)==false)]:=by show _=_;kernel_rfl
def ahY(e:U 64→U 64→U 64)(f:cw)(X a:U 64)(M:Nat)(m:Int)(mem tm b c p n sl k:BitVec 32)(d:Value):jF 11 (b6 11) (jm n sl k d (.aD 0#32),iR f X M m mem tm b c p c9 a) (hO (fM e) aQ 44 yG (jm n sl k d .aa) ⟨iR f X M m mem tm b c p c9 a,bJ,(bE 3 0),[]⟩) .normal [((n==(0#32))==false),((n==(0#32))==false),((n==(0#32))==false)]:=by show _=_;kernel_rfl
def ahZ(e:U 64→U 64→U 64)(f:cw)(X a:U 64)(M:Nat)(m:Int)(mem tm b c p n sl k:BitVec 32)(d:Value):jF 11 (b6 11) (jm n sl k d (.aD 0#32),iR f X M m mem tm b c p c9 a) (hO (fM e) aQ 44 yG (jm n sl k d .aa) ⟨iR f X M m mem tm b c p c9 a,bJ,(bE 4 7),[]⟩) .normal [((sl==(0#32))==false),((n==(0#32))==true),((n==(0#32))==true),((n==(0#32))==true)]:=by show _=_;kernel_rfl
def ah0(b:U 64→U 64→U 64)(f:cw)(X a:U 64)(M:Nat)(m:Int)(mem tm c d p n sl k:BitVec 32)(e:Value):jF 11 (b6 11) (jm n sl k e (.aD 2#32),iR f X M m mem tm c d p (eJ b (dz a) c9) (dz a)) (hO (fM b) aQ 44 yG (jm n sl k e .aa) ⟨iR f X M m mem tm c d p c9 a,bJ,(bE 7 127),[]⟩) .normal [decide True,decide True,((m==1)==true),((m==1)==true),((m==1)==true),((sl==0#32)==true),((n==0#32)==true),((n==0#32)==true),((n==0#32)==true)]:=by show _=_;kernel_rfl
def ah1(b:U 64→U 64→U 64)(f:cw)(X a:U 64)(M:Nat)(m:Int)(mem tm c d p n sl k:BitVec 32)(e:Value):jF 11 (b6 11) (jm n sl k e (.aD 2#32),iR f X M m mem tm c d p (eJ b (dz a) c9) (dz a)) (hO (fM b) aQ 44 yG (jm n sl k e .aa) ⟨iR f X M m mem tm c d p c9 a,bJ,(bE 8 143),[]⟩) .normal [decide True,decide True,((m==2)==true),((m==1)==false),((m==1)==false),((m==1)==false),((sl==0#32)==true),((n==0#32)==true),((n==0#32)==true),((n==0#32)==true)]:=by show _=_;kernel_rfl
def ah2(e:U 64→U 64→U 64)(f:cw)(X a:U 64)(M:Nat)(m:Int)(mem tm b c p n sl k:BitVec 32)(d:Value):jF 11 (b6 11) (jm n sl k d (.aD 2#32),iR f X M m mem tm b c p c9 a) (hO (fM e) aQ 44 yG (jm n sl k d .aa) ⟨iR f X M m mem tm b c p c9 a,bJ,(bE 8 15),[]⟩) .normal [((m==2)==false),((m==1)==false),((m==1)==false),((m==1)==false),((sl==(0#32))==true),((n==(0#32))==true),((n==(0#32))==true),((n==(0#32))==true)]:=by show _=_;kernel_rfl
def AV:FuncId→Nat→Option cP|44,17=>some LZ|_,_=>none
def k6(d:l8):l8:=iter (dG bw) (d.az.toNat-d.ix.toNat) d
def d44(f:cw)(X ad d:U 64)(M:Nat)(m:Int)(mem tm a b p n sl k c:BitVec 32)(e:Value):l8:=⟨f,X,dg ad,dg d,dg c9,M,m,mem,tm,a,b,p,n,sl,k,c,k*a+sl*b+c,e⟩
def FF(f:cw)(X ad a:U 64)(M:Nat)(m:Int)(mem tm b c p n sl k d:BitVec 32)(e:Value):jF 11 none (yH (k6 (d44 f X ad a M m mem tm b c p n sl k d e)).f (k6 (d44 f X ad a M m mem tm b c p n sl k d e)).X (k6 (d44 f X ad a M m mem tm b c p n sl k d e)).kA) (hO (fM bw) AV 44 L0 (jm n sl k e (.aD d)) ⟨iR f X M m mem tm b c p ad a,bJ,[],[]⟩) .normal [LX (d44 f X ad a M m mem tm b c p n sl k d e)]:=by show _=_;kernel_rfl
end
section
open Go Go.aA Conc Conc.Lib RowKit
variable{w:World}{i:Nat}{Q:Go.Loc→Prop}{R:Array Goroutine}{sl:Option (Nat×Nat)}{T:Trace}{q:Nat→Nat}{n:Nat}
def k7(X:U 64)(a:Nat):Option Value:=(X.l[a]?).map fun b=>.int .u64 (b.toNat:Int)
def AW(room:Nat)(X:U 64)(b:Obj):Prop:=∃vs t bu,b=.cells vs t bu∧I7 bu vs.size∧vs.size=room∧X.n≤room∧∀a,a<X.n→vs[a]? =k7 X a
structure Call where
 (lV:Option Addr)(lW eM tm:Nat)(mem:Int)(N:Nat)(mode ln az:Int)(cn room sN:Nat)(V:Nat→U 64)(cY:Nat→Nat→Nat→Prop)(iL:Nat→Nat→Prop)(kx:Nat→Nat→Nat)(Y:Nat→Nat→Nat→Value)
structure fX(c:Call):Prop where
 N:0<c.N∧c.N<2147483648
 tm:c.tm<2147483648
 ln:IntKind.u32.wrap (c.mem.tdiv c.N)=c.ln
 az:IntKind.u32.wrap (c.ln.tdiv 4)=c.az
 rZ:∀s k oA o,c.cY s k o→c.cY s oA o→k=oA
 xD:∀s k o,c.cY s k o→¬c.iL s o
 kx:∀s k,c.cY s k (c.kx s k)∨c.iL s (c.kx s k)
 n:∀i,(c.V i).n=c.sN
 step:∀i o,o<c.sN→(∃k,k<c.N∧c.cY (i%4) k o∧some (c.Y i k o)=k7 (c.V (i+1)) o)∨((∀k,k<c.N→¬c.cY (i%4) k o)∧k7 (c.V (i+1)) o=k7 (c.V i) o)
structure od(c:Call)(w0:World)(i:Nat)(w:World):Prop where
 os:w.os=w0.os
 tape:w.tape=w0.tape
 output:w.output=w0.output
 size:w0.heap.size+7≤w.heap.size
 boxes:∀j o,(boxes c.lV c.lW c.eM c.tm c.mem c.N c.mode c.ln c.az)[j]? =some o→w.heap[w0.heap.size+j]? =some o
 old:∀b,b<w0.heap.size→b≠c.cn→w.heap[b]? =w0.heap[b]?
 GR:∃o,AW c.room (c.V i) o∧w.heap[c.cn]? =some o
section
variable{c:Call}{P:Machine}{w0:World}{cs:List Frame}
def od.at{a:World}(h:od c w0 i w)(r:AtRel w a):od c w0 i a:=by
 obtain⟨d,rfl⟩:=r;exact⟨h.os,h.tape,h.output,h.size,h.boxes,h.old,h.GR⟩
def od.next(d:fX c)(J:c.cn<w0.heap.size){w':World}(h:od c w0 i w)(r:z3 c.cn c.N (c.cY (i%4)) (c.Y i) w w'):od c w0 (i+1) w':=by
 have K:=h.size;refine⟨r.os.trans h.os,r.tape.trans h.tape,r.output.trans h.output,by have:=r.size;omega,fun j a g=>?_,fun b v l=>(r.old b (by omega) l).trans (h.old b v l),?_⟩
 ·have:j<7:=(dX.1 g).1;exact(r.old _ (by omega) (by omega)).trans (h.boxes j a g)
 ·obtain⟨_,⟨vs,t,bu,rfl,h2,h3,h4,x⟩,m⟩:=h.GR;have y:∃us,w'.heap[c.cn]? =some (.cells us t bu)∧us.size=vs.size∧∀a,(∀k,k<c.N→¬c.cY (i%4) k a)→us[a]? =vs[a]? :=by
   rcases r.bR with z|⟨L,us,A,B,o,C,D,E⟩
   ·exact⟨vs,z.trans m,rfl,fun _ _=>rfl⟩
   ·rw[m]at o;cases o;exact⟨us,C,D,E⟩
  obtain⟨us,p,s,F⟩:=y;have M:=d.n i;have O:=d.n (i+1);refine⟨_,⟨us,t,bu,rfl,by rw[s];exact h2,s.trans h3,by omega,fun a S=>?_⟩,p⟩;rcases d.step i a (by omega)with⟨k,H,e,f⟩|⟨e,f⟩
  ·obtain⟨U,A,B,u,I⟩:=r.pay k H;rw[p]at u;cases u;rw[I a e,f]
  ·rw[F a e,f];exact x a (by omega)
def AX(c:Call)(P:Machine)(w0:World):Prop:=
 ∀i,i<4*c.tm→∀(Q:Go.Loc→Prop) (w1:World),od c w0 i w1→(∀l,Q l→∃a,l=.cell a∧a.block<w1.heap.size∧mP Tryz.prog P 33 a.block)→(∀b:Addr,w0.heap.size≤b.block→b.block<w0.heap.size+7→¬Q (.cell b))→
  ∀p:dj,I1 p Q P c.N c.cn (c.cY (i%4)) (c.iL (i%4)) (c.kx (i%4)) (c.Y i) w1→∀k:Nat,k<c.N→∀w,dw p k p.cF w→aA.Works Tryz.prog p k (born Tryz.prog (call44 w0.heap.size ((i/4:Nat):Int) ((i%4:Nat):Int) k p.Wg)) w
def L1(c:Call)(P:Machine)(w0:World)(cs:List Frame)(n b i:Nat):Prop:=∃Q R T w sl d q,ir Tryz.prog P 33 Q R (r6 T cs) w sl d q∧(TS w0.heap.size (n:Int) T∧T[14]? =some (.int .u32 (b:Int)))∧od c w0 i w∧∀a:Addr,w0.heap.size≤a.block→a.block<w0.heap.size+7→¬Q (.cell a)
def GU(c:Call)(P:Machine)(w0:World)(cs:List Frame)(n i:Nat):Prop:=∃Q R T w sl b q,ir Tryz.prog P 33 Q R (vo T cs) w sl b q∧TS w0.heap.size (n:Int) T∧od c w0 i w∧∀a:Addr,w0.heap.size≤a.block→a.block<w0.heap.size+7→¬Q (.cell a)
def ah3(c:Call)(P:Machine)(w0:World)(cs:List Frame)(i:Nat):Prop:=∃Q R T w sl a q,ir Tryz.prog P 33 Q R (zY T cs) w sl a q∧od c w0 i w
def aP{a:Goroutine}{S:Goroutine→Prop}(k:ir Tryz.prog P 33 Q R a w sl T q)(m:∀g,S g→g.status=.running)(h:r4 Tryz.prog Q w.heap.size (fun g w'=>S g∧AtRel w w') a w):
 ∃d b w' e f j,ir Tryz.prog P 33 Q d b w' e f j∧S b∧AtRel w w':=by
 obtain⟨d,b,w',e,f,j,h1,_,t,h2,h3⟩:=(k.lone (aX _)).to (Stop:=fun g w'=>S g∧AtRel w w') (fun g w h=>m g h.1) (fun g w u r h=>⟨h.1,mO _ _ _ h.2 r⟩) h;exact⟨d,b,w',e,f,j,h1.Co (fun l o=>let⟨a,p,v,s⟩:=k.oQ l o;⟨a,p,by omega,s⟩),h2,h3⟩
def GV(e:fX c)(y:c.cn<w0.heap.size)(z:¬mP Tryz.prog P 33 c.cn)(A:AX c P w0){s:Nat}(Z:n<c.tm)(v:s<4)(h:L1 c P w0 cs n s (4*n+s)):L1 c P w0 cs n (s+1) (4*n+s+1):=by
 obtain⟨Q,R,T,w,sl,aa,q,m,⟨B,C⟩,f,o⟩:=h;have r:(4*n+s)%4=s:=by omega
 have D:(4*n+s)/4=n:=by omega
 have ab:=f.size;obtain⟨x,ad,j,w',ae,af,ag,h1,⟨h2,E⟩,h3,h4⟩:=Yo (n0:=w0.heap.size) (cn:=c.cn) (n:=n) (s:=s) (cY:=c.cY s) (iL:=c.iL s) (kx:=c.kx s) (Y:=c.Y (4*n+s)) e.N.1 e.N.2 (e.rZ s) (e.xD s) (e.kx s) m B C (by omega) (f.boxes 3 _ rfl) (fun d l=>o d (by omega) (by omega)) (by omega) (by omega)
  (fun d l v=>by obtain⟨a,t,_,cQ⟩:=m.oQ _ v;cases t;exact z (l▸cQ))
  (fun p F k u w H=>by
   have:=A (4*n+s) (by omega) Q _ f m.oQ o p (by rw[r];exact F) k u w H
   rwa[r,D]at this)
 have I:od c w0 (4*n+s+1) w':=f.next e y (by rw[r];exact h3);have u:∀d:Addr,w0.heap.size≤d.block→d.block<w0.heap.size+7→¬x (.cell d):=fun d a b l=>o d a b (h4 d (by omega) l);obtain⟨J,ah,K,L,M,O,U,⟨V,rfl,W,X⟩,bf⟩:=aP (S:=fun g=>∃j,g=r6 j cs∧TS w0.heap.size n j∧j[14]? =some (.int .u32 ((s:Int)+1))) h1 (fun g ⟨_,t,_⟩=>by rw[t];rfl) (slice3 h2 E (by rw[IntKind.wrap_u32];omega) w');exact⟨x,J,V,K,L,M,O,U,⟨W,by rw[X];rfl⟩,I.at bf,u⟩
def ah4(b:fX c)(e:c.cn<w0.heap.size)(f:¬mP Tryz.prog P 33 c.cn)(j:AX c P w0)(k:n<c.tm)(h:GU c P w0 cs n (4*n)):GU c P w0 cs (n+1) (4*(n+1)):=by
 obtain⟨Q,R,T,w,sl,A,q,m,o,d,l⟩:=h;have F:=d.size;have H:=b.tm;obtain⟨p,B,r,s,t,u,v,⟨x,rfl,y,C⟩,bf⟩:=aP (S:=fun g=>∃a,g=r6 a cs∧TS w0.heap.size n a∧a[14]? =some (.int .u32 0)) m (fun g ⟨_,z,_⟩=>by rw[z];rfl) (X9 o (by omega:(n:Int)<c.tm) w (d.boxes 1 _ rfl) (l _ (by show _≤w0.heap.size+1;omega) (by show w0.heap.size+1<_;omega)) (by omega));have D:L1 c P w0 cs n 0 (4*n+0):=⟨Q,p,x,r,s,t,u,v,⟨y,C⟩,d.at bf,l⟩;have h4:=GV b e f j k (by omega) (GV b e f j k (by omega) (GV b e f j k (by omega) (GV b e f j k (by omega) D)));obtain⟨Q,R,T,w,sl,A,q,m,⟨o,E⟩,d,l⟩:=h4;obtain⟨p,B,r,s,t,u,v,⟨x,rfl,y⟩,bf⟩:=aP (S:=fun g=>∃a,g=vo a cs∧TS w0.heap.size ((n:Int)+1) a) m (fun g ⟨_,z,_⟩=>by rw[z];rfl) (Yc o E (by omega) (by rw[IntKind.wrap_u32];omega) w);exact⟨Q,p,x,r,s,t,u,v,y,d.at bf,l⟩
def Tq(a:fX c)(b:c.cn<w0.heap.size)(d:¬mP Tryz.prog P 33 c.cn)(e:AX c P w0)(h:GU c P w0 cs 0 0):∀n,n≤c.tm→GU c P w0 cs n (4*n)|0,_=>h|n+1,f=>ah4 a b d e f (Tq a b d e h n (by omega))
def L2(c:Call)(cs:List Frame):Goroutine:=G (Frame.enter Tryz.prog 33 #[.slice c.lV c.lW c.eM,.int .u32 c.tm,.int .u32 c.mem,.int .u32 c.N,.int .i64 c.mode] .normal) cs
def ah5(c:Call)(cs:List Frame):L2 c cs=G ((base 33).at ⟨#[.slice c.lV c.lW c.eM,.int .u32 c.tm,.int .u32 c.mem,.int .u32 c.N,.int .i64 c.mode,undef,undef,undef,undef,undef,undef,undef,undef,undef,undef,undef,undef,undef,undef,undef,undef,undef,undef,undef,undef,undef,undef,undef,undef,undef,undef,undef,undef,undef,undef,undef,undef,undef,undef,undef,undef,undef,undef],[]⟩ [.code (Tryz.f33.body.getD .skip)]) cs:=by
 unfold L2;have a:Tryz.f33.body=some (Tryz.f33.body.getD .skip):=by unfold Tryz.f33;simp only[ic]
 have b:Tryz.f33.ntmps=43:=by unfold Tryz.f33;rfl
 rw[enter_at _ Tryz.func33 a,b];simp only[List.size_toArray,iY,kK,Nat.reduceAdd,Nat.reduceSub,Array.replicate,List.replicate];simp only[Bl,ng,jP]
def ah6(o:fX c)(t:c.cn<w0.heap.size)(x:¬mP Tryz.prog P 33 c.cn)(y:AX c P w0)(z:∃e,AW c.room (c.V 0) e∧w0.heap[c.cn]? =some e)(f:ir Tryz.prog P 33 Q R (L2 c cs) w0 sl T q):ah3 c P w0 cs (4*c.tm):=by
 have u:∀a:Addr,Q (.cell a)→a.block<w0.heap.size:=fun a A=>by obtain⟨b,k,h,_⟩:=f.oQ _ A;cases k;exact h
 have ak:=o.N;have v:=X6 (cs:=cs) (lV:=c.lV) (lW:=c.lW) (eM:=c.eM) (tm:=c.tm) (mem:=c.mem) (dD:=c.N) (m:=c.mode) u (by omega) o.ln o.az w0 (Ext.refl w0);rw[←ah5]at v;obtain⟨B,al,w1,C,D,E,h1,_,am,H,rfl,I,d⟩:=(f.lone (HY _ 7)).to (fun g w h=>by obtain⟨_,rfl,_⟩:=h;rfl) (fun g w an J ⟨K,h1,h2,h3⟩=>⟨K,h1,h2,h3.rely J⟩) v;have L:=h1.Co (F:=33) (fun l M=>let⟨a,k,p,r⟩:=f.oQ l M;⟨a,k,by omega,r⟩);have O:od c w0 0 w1:=⟨d.os,d.tape,d.output,by have:=d.size;simp[boxes]at this;omega,fun j e U=>d.at j U,fun b W _=>d.old W,let⟨e,p,r⟩:=z;⟨e,p,(d.old t).trans r⟩⟩;have X:=Tq o t x y ⟨Q,B,H,w1,C,D,E,L,I,O,fun p h1 h2 Y=>by have:=u p Y;omega⟩ c.tm (aX _);obtain⟨Q,R,T,w,sl,ao,q,f,Z,s,aa⟩:=X;obtain⟨ab,ap,ad,ae,af,ag,ah,⟨ai,rfl⟩,bf⟩:=aP (S:=fun g=>∃aj,g=zY aj cs) f (fun g ⟨_,k⟩=>by rw[k];rfl) (Ya Z (by omega:¬(c.tm:Int)<c.tm) w (s.boxes 1 _ rfl) (aa _ (by show _≤w0.heap.size+1;omega) (by show w0.heap.size+1<_;omega)) (by have:=s.size;omega));exact⟨Q,ab,ai,ad,ae,af,ag,ah,s.at bf⟩
end
end
section
open Go Go.aA Conc Conc.Lib RowKit
def k8:Frame:={(default:Frame)with fn:=Tryz.prog.funcs.size,defers:=[],mode:=.panicking [goexitEntry]}
def uh:Array Oper:=opsOf (sub (bE 7 127) (cR Tryz.prog 44))
def Dt:Code:=.region 31 uh false
def ah7:cR Tryz.prog 44=n3 (cR Tryz.prog 44) yF (n3 (cR Tryz.prog 44) yG (n3 (cR Tryz.prog 44) L0 Dt)):=by kernel_rfl
def ah8:Tryz.f44.body.getD .skip=cR Tryz.prog 44:=by kernel_rfl
def ah9:List.range uh.size=[0,1]:=by kernel_rfl
def AY(n0:Nat)(n a k:Int)(b:Nat):List Value:=[.int .u32 n,.int .u32 a,.int .u32 k,cA b,cA (n0+4),cA (n0+2),cA (n0+1),cA (n0+5),cA (n0+6),cA n0,cA (n0+3)]
def L3(n0:Nat)(n a k:Int)(b:Nat):Frame:=(baseD 44).at {tmps:=(⟨AY n0 n a k b⟩:Array Value)++Array.replicate (bN Tryz.prog 44-(AY n0 n a k b).length) undef,defers:=[]} [.code (cR Tryz.prog 44)]
def Tr:bN Tryz.prog 44=153:=by kernel_rfl
def aia(n0:Nat)(n a k:Int)(b:Nat)(w:World):stepG Tryz.prog false (born Tryz.prog (call44 n0 n a k b)) w=.go (G (L3 n0 n a k b) [k8]) w #[]:=by
 have c:Tryz.f44.body=some (Tryz.f44.body.getD .skip):=by unfold Tryz.f44;simp only[ic]
 have d:Tryz.f44.ntmps=bN Tryz.prog 44:=by kernel_rfl
 have e:(Tryz.f44.name== "runtime.NumGoroutine")=false:=by unfold Tryz.f44;kernel_rfl
 have f:Frame.enter Tryz.prog 44 #[.int .u32 n,.int .u32 a,.int .u32 k,cA b,cA (n0+4),cA (n0+2),cA (n0+1),cA (n0+5),cA (n0+6),cA n0,cA (n0+3)] .deferred=L3 n0 n a k b:=by
  rw[enter_atD _ Tryz.func44 c,ah8,d];unfold L3 AY;rfl
 have g:¬Tryz.f44.name= "runtime.NumGoroutine" :=by simpa using e
 have h:¬Tryz.f44.body=none:=by rw[c];simp
 simp[born,call44,mR,stepG,unwind,callDeferred,invoke,callFunc,Tryz.func44,g,h,seen,GStep.after,G,f,k8]
def aib(T:Array Value)(a:Array Oper):QuitsD Tryz.prog 4 0 (G ((baseD 44).at ⟨T,[]⟩ [.inRegion a []]) [k8]):=by
 have b:Tryz.f44.results=#[]:=by unfold Tryz.f44;rfl
 refine QuitsD.ctl rfl (fun _=>stepG_region_end) (QuitsD.ctl rfl (fun _=>stepG_end) ?_);refine QuitsD.ctl (g':=G k8 []) rfl (fun w=>?_) ?_
 ·simp[G,stepG,unwind,doReturn,results,b,Frame.at,baseD,k8,Tryz.func44,seen,GStep.after,goexitEntry]
 refine QuitsD.ctl (g':={G k8 []with status:=.finished}) rfl (fun w=>?_) ⟨rfl,rfl⟩;simp[G,stepG,unwind,k8,goexitEntry,Frame.catches];rfl
def qd(i:Nat):Oper:=uh.getD i {dst:=none,op:=.move (.tmp 0),type:=0,pos:= "",after:=#[],guard:=none}
section
variable(P:Operand→Value)(w:World)
def L4:uh[0]? =some (qd 0)∧uh[1]? =some (qd 1):=⟨by kernel_rfl,by kernel_rfl⟩
def Ts:(qd 0).dst=some 151∧(qd 1).dst=some 152:=⟨by kernel_rfl,by kernel_rfl⟩
def Tt:(qd 0).op=.move (.tmp 3):=by kernel_rfl
def Tu:(qd 1).op=.call {callee:=.value (.func link.done),args:=#[.tmp 151],argTypes:=#[101]}:=by kernel_rfl
def Tv(a:Nat→Option Bool):Region.wanted (qd 0) a=true∧Region.wanted (qd 1) a=true:=⟨by kernel_rfl,by kernel_rfl⟩
end
end
end Go.Proofs.YtcminalaicidiaaGreatDoor
section
namespace Go.aA
open Conc
section
variable{P:Program}{main:Bool}{R N:Rel}{D:vh}{S:lu}{g:Goroutine}{w:World}
def gA.inv(aq:World→Prop)(i:∀a b,R a b→aq a→aq b)(m:∀a b f,N a b→D a b f→aq a→aq b)(h:gA P main R N D S g w)(b7:aq w):gA P main R N D (fun g w=>S g w∧aq w) g w:=by
 induction h with
 |stop h=>exact .stop fun e c=>⟨h e c,i _ _ c b7⟩|step o h _ q=>
  refine .step o h fun e g' w' f c j n=>q e g' w' f c j n ?_;obtain⟨r,s,t,l,d⟩:=h e c;rw[j]at l;cases l;exact m _ _ _ n (d n) (i _ _ c b7)
end
end Go.aA
namespace Go.Proofs.YtcminalaicidiaaGreatDoor
open Go Go.aA Conc Conc.Lib RowKit
open Go.ConcR (KK WgAt stA smA rd wr mk DC0 wgBlock)
open Go.ConcR.Gen Go.ConcN.Gen
def fJ{a:Act}{d:Nat}{v:Value}(h:d<a.tmps.size):(a.put (some d) v).eval (.tmp d)=v:=by
 simp[Act.put,Act.eval,gV,h]
section
variable{p:dj}{k:Nat}{v Q:World}
def GX(p:dj)(k:Nat)(v:World):Prop:=p.live v∧(∃a,v.cell? ⟨p.bR,p.kx k,none⟩=some a)∧p.kQ k v
def GX.rely(a:eL p)(h:GX p k v)(r:dw p k v Q):GX p k Q:=⟨r.live h.1,let⟨b,c⟩:=h.2.1;⟨b,(r.bR.cell (a.kx k)).trans c⟩,a.pay k _ _ r h.2.2⟩
def aic(c:eL p)(t:p.ty=link.tWg){a:Act}(h3:a.eval (.tmp 3)=cA p.Wg)(J:a.tmps.size=153)(e:a.defers=[])(h:GX p k v):aA.Works Tryz.prog p k (G ((baseD 44).at a [.code Dt]) [k8]) v:=by
 refine gA.one rfl fun Q l=>⟨_,Q,#[],stepG_region,fun _=>⟨jW.idle _,?_⟩⟩;replace h:=h.rely c l;clear l;rw[ah9];refine gA.one rfl fun f u=>?_;replace h:=h.rely c u;have x:(execOp a.eval (qd 0)).run Tryz.prog f=.ok (.value (cA p.Wg)) f:=by
  rw[←h3];simp[execOp,Tt]
 have p8:listed Tryz.prog (baseD 44).fn a (qd 0) f=#[]:=listed_nil (by simp[execOp,Tt]);have m:=stepG_value (P:=Tryz.prog) (main:=false) (b:=baseD 44) (a:=a) (k:=[]) (cs:=[k8]) (rest:=[1]) L4.1 (Tv _).1 (by simp[baseD]) x;rw[Ts.1,p8]at m;refine⟨_,_,_,m,fun _=>⟨jW.idle _,?_⟩⟩;refine gA.one rfl fun i y=>?_;replace h:=h.rely c y;have n:(a.put (some 151) (cA p.Wg)).eval (.tmp 151)=cA p.Wg:=fJ (by omega);have d:Tryz.f48.body.isNone=false:=by kernel_rfl
 have j:(Tryz.f48.name== "runtime.NumGoroutine")=false:=by kernel_rfl
 have o:¬Tryz.f48.body=none:=by intro h;rw[h]at d;cases d
 have q:¬Tryz.f48.name= "runtime.NumGoroutine" :=by simpa using j
 have r:(a.put (some 151) (cA p.Wg)).eval (.func link.done)=.func (.func 48) #[] #[]:=rfl;have z:(execOp (a.put (some 151) (cA p.Wg)).eval (qd 1)).run Tryz.prog i=.ok (.enter 48 #[cA p.Wg]) i:=by
  simp[execOp,Tu,resolve,invoke,callFunc,Tryz.func48,o,q,r,n,Deferred.ofValue]
 have A:listed Tryz.prog (baseD 44).fn (a.put (some 151) (cA p.Wg)) (qd 1) i=#[]:=listed_nil (by simp[execOp,Tu,resolve,invoke,callFunc,Tryz.func48,o,q,r,n,Deferred.ofValue]);have s:=stepG_enter (P:=Tryz.prog) (main:=false) (b:=baseD 44) (a:=a.put (some 151) (cA p.Wg)) (k:=[]) (cs:=[k8]) (rest:=[]) L4.2 (Tv _).2 (by simp[baseD]) z;rw[A]at s;refine⟨_,_,_,s,fun _=>⟨jW.idle _,?_⟩⟩;have d:Tryz.f48.body=some (body_done link):=by kernel_rfl
 have j:Tryz.f48.ntmps=4:=by kernel_rfl
 have B:Frame.enter Tryz.prog 48 #[cA p.Wg] .normal=(base link.done).at ⟨#[.pointer (some ⟨p.Wg,0,none⟩),undef,undef,undef],[]⟩ [.code (body_done link)]:=by
  rw[enter_at _ Tryz.func48 d,j];rfl
 rw[B];have C:QuitsD Tryz.prog 4 0 (G ((baseD 44).at ((a.put (some 151) (cA p.Wg)).put ((uh[1]?).bind (·.dst)) (.tuple #[])) (.inRegion uh []::[])) [k8]):=by
  obtain⟨T,D⟩:=a;have e:D=[]:=e;subst e;have E:(uh[1]?).bind (·.dst)=some 152:=by rw[L4.2];exact Ts.2
  rw[E];exact aib _ _
 obtain⟨F,⟨K,H⟩,I⟩:=h;exact X4 (b₀:=baseD 44) (a₀:=a.put (some 151) (cA p.Wg)) (ops₀:=uh) (i₀:=1) (rest₀:=[]) (k₀:=[]) (cs:=[k8]) zW c t C F H I
end
end Go.Proofs.YtcminalaicidiaaGreatDoor
end
end

/- Part of FnArgon2. No condition. -/
import Derived.Test.YtcminalaicidiaaGreatDoorWG
import Derived.Test.YtcminalaicidiaaGreatDoorRows
import Derived.WalkKit
import Derived.ProofKit
import Derived.LaidLaws
import Derived.LaidHandle
import Derived.Handed
set_option maxRecDepth 100000
set_option maxHeartbeats 8000000
set_option linter.all false
noncomputable section
namespace Go.Proofs.YtcminalaicidiaaGreatDoor
section
open Go.ay
variable [aR][aG][bl]
def amK{X:U 64}{a:List (List (BitVec 64))}(M:Nat)(d:Rows X a 8):(kD X M 8#32 1#32 4#32).l.getD 0 0#8=k8 (eP (bU 4) (A9 (a.getD 7 gJ)) 1028) 0:=by
 obtain⟨b,c,o,e⟩:=Nd X (rowAt X (aS (8#32-1#32))) M 8#32 1#32 4#32 (8#32/1#32) 0#32 128 (aV _);have g:kD X M 8#32 1#32 4#32=fZ (U.zero 8 4) b 0 4 4 0 1024:=by
  have j:dJ X M 8#32 1#32 4#32=⟨X,M,8#32,1#32,4#32,8#32/1#32,0#32⟩:=rfl;have k:ie ⟨X,M,8#32,1#32,4#32,8#32/1#32,0#32⟩=⟨X,b,rowAt X (aS (8#32-1#32)),M,8#32,1#32,4#32,8#32/1#32,0#32,((128:Nat):Int)⟩:=c;unfold kD;rw[j,k];rfl
 have p:(U.zero 8 4).n=4:=rfl;rw[g];unfold fZ;rw[ax (by omega),yL _ _ _ _ _ (by omega) (by omega) (by omega) (by omega),ax (by omega),MD _ _ _ _ _ (by omega) (by omega)];have c:eP (bU 4) (iS 4 b 0) (4+1024)=eP (bU 4) (A9 (a.getD 7 gJ)) 1028:=Dw _ _ fun i hi=>by
  unfold iS A9;split
  ·rfl
  ·have h:=e (i-4) (by omega);rw[cM];refine Eq.trans (b:=cF b (i-4)) rfl (h.trans ?_);unfold yR oq A8;have m:aL (rowAt X (aS (8#32-1#32))) ((i-4)/8)=(a.getD 7 gJ).getD ((i-4)/8) 0#64:=by
    rw[q6 _ _ (by omega)];exact d.get 7 ((i-4)/8) (by omega) (by omega)
   rw[m]
 exact iX (fun f=>k8 f 0) c
def VH{h V:U 8}(M:Nat)(a:V.n=64)(b:h.n=72)(c:∀i,i<64→cF h i=cF V i):(kD (jG 2 8#32 1#32 1#32 (ji h 8#32 1#32)) M 8#32 1#32 4#32).l.getD 0 0#8=Nr (eP (bU 64) (iS 1024 (kC V 0 0) 0) (4+72)) (eP (bU 64) (iS 1024 (kC V 1 0) 0) (4+72)):=amK M (amF (amv a b c))
def VI{h:List (BitVec 8)}(c:h.length=72){a:U 8}(b:(ow a).l=h):∀i,i<64→cF (ow a) i=cF ((U.of h).sub 0 64) i:=fun i hi=>by
 unfold cF;rw[pF (U.of h) 0 64 i (by show 0+64≤h.length;omega) hi,b,cM];rfl
def amL:NJ:=by
 have a:(s6 ez 1#8).l.getD 0 0#8=117#8:=by
  show(kD (jG 2 8#32 1#32 1#32 (ji (ow (s3 (U.of [1#8]) D6 0 1 0 8 1#32 8#32 1#32 4#32 2)) 8#32 1#32)) (8#32).toNat 8#32 1#32 4#32).l.getD 0 0#8=_;rw[VH (V:=NM) _ rfl (Nm _) (VI rfl amG),←Vf,amH]
 have b:(s6 ez 2#8).l.getD 0 0#8=183#8:=by
  show(kD (jG 2 8#32 1#32 1#32 (ji (ow (s3 (U.of [2#8]) D6 0 1 0 8 1#32 8#32 1#32 4#32 2)) 8#32 1#32)) (8#32).toNat 8#32 1#32 4#32).l.getD 0 0#8=_;rw[VH (V:=NN) _ rfl (Nm _) (VI rfl amI),←Vf,amJ]
 unfold NJ;rw[a,b];decide
end
section
open Go.ChangeShapes Go.WideShapes Go.RowKit
open Go.ay
variable{Q:World}{k:IntKind}{l:List Int}{P:Program}{t R n S:Nat}{cs:List Value}{p:List MemPlace}{g:Nat}
def HG:List (List Int):=[[0,2,4,6,1,3,5,7,8,10,12,14,9,11,13,15],[14,4,9,13,10,8,15,6,1,0,11,5,12,2,7,3],[11,12,5,15,8,0,2,13,10,3,7,9,14,6,1,4],[7,3,13,11,9,1,12,14,2,5,4,15,6,10,0,8],[9,5,2,10,0,7,4,15,14,11,6,3,1,12,8,13],[2,6,0,8,12,10,11,3,4,7,15,1,13,5,14,9],[12,1,14,4,5,15,13,10,0,6,9,8,7,3,2,11],[13,7,12,3,11,14,1,9,5,15,8,2,0,4,6,10],[6,14,11,0,15,9,3,8,12,13,1,10,2,7,4,5],[10,8,7,1,2,4,6,5,15,9,3,13,11,14,12,0],[0,2,4,6,1,3,5,7,8,10,12,14,9,11,13,15],[14,4,9,13,10,8,15,6,1,0,11,5,12,2,7,3]]
def HH:List Int:=[7640891576956012808,13503953896175478587,4354685564936845355,11912009170470909681,5840696475078001361,11170449401992604703,2270897969802886507,6620516959819538809]
def amM:FY=HG.flatten.map fun z=>af.num (.int .u8 (.c z)):=by kernel_rfl
def amN:FZ=HH.map fun z=>af.num (.int .u64 (.c z)):=by kernel_rfl
def amO:(Rows.laid_pub_wardkeep_pub_crypto_blake2b_precomputed:DataW Unit)=.agg (HG.map fun r=>.agg (r.map fun z=>.lit (.int .u8 z))):=by kernel_rfl
def amP:(Rows.laid_pub_wardkeep_pub_crypto_blake2b_iv:DataW Unit)=.agg (HH.map fun z=>.lit (.int .u64 z)):=by kernel_rfl
def VJ:Tryz.prog.globalNamed "pub-wardkeep/pub/crypto/blake2b.precomputed" =some 0:=by kernel_rfl
def VK:Tryz.prog.globalNamed "pub-wardkeep/pub/crypto/blake2b.iv" =some 4:=by kernel_rfl
def amQ:(Tryz.prog.globals[0]?).map (·.type)=some 82:=by kernel_rfl
def amR:(Tryz.prog.globals[4]?).map (·.type)=some 142:=by kernel_rfl
def NO:Tryz.prog.cellsOf 5=1:=by kernel_rfl
def amS:Tryz.prog.cellsOf 81=16:=by kernel_rfl
def amT:Tryz.prog.cellsOf 82=192:=by kernel_rfl
def amU:Tryz.prog.cellsOf 51=1:=by kernel_rfl
def amV:Tryz.prog.cellsOf 142=8:=by kernel_rfl
def VL(e:P.underlying t=some (.array n R))(f:P.underlying R=some (.int k))(j:P.cellsOf R=1)(w:P.cellsOf t=n)(x:l.length=n)
 (h:DataW.trod (fun _=>()) P Q 0 (fun _=>true) false S t cs=some (.agg (l.map fun z=>.lit (.int k z)),p)):cs=l.map fun z=>.int k z:=by
 obtain⟨o,m,_,q,y,A,r⟩:=DataW.trod_array e h;have s:l.map (fun z=>(DataW.lit (.int k z):DataW Unit))=o.map (·.1):=by
  have:=iX Prod.fst q;simpa using this
 refine wX fun i=>?_;rcases cu i n with hi|hi
 ·have c:=r i hi;rw[j,y4,bX (by omega)]at c;obtain⟨z,u,v,B⟩:=DataW.trod_int f c;have b:cs[i]? =some (.int k z):=by
   have b:((cs.drop i).take 1)[0]? =some (.int k z):=by rw[u];rfl
   simpa using b
  have a:(l.map (fun z=>(DataW.lit (.int k z):DataW Unit)))[i]? =some (.lit (.int k z)):=by
   rw[s,ef,bX (by omega),v];rfl
  rw[b,ef];rw[ef]at a;cases d:l[i]? with
  |none=>rw[d]at a;cases a
  |some C=>
   rw[d]at a;simp only[ig,aD,DataW.lit.injEq,Lit.int.injEq,HQ]at a;subst a;rfl
 ·rw[dz (by omega),dz (by rw[mA];omega)]
def VM{c:Type}(m:Nat):∀(a:List (List c)) (cs:List c),cs.length=m*a.length→(∀(i:Nat) r,a[i]? =some r→(cs.drop (i*m)).take m=r)→cs=a.flatten
 |[],cs,b,_=>by
  have:cs.length=0:=by simpa using b
  simpa using this
 |r::d,cs,b,h=>by
  have e:cs.take m=r:=by simpa using h 0 r rfl
  have o:cs.length=m*d.length+m:=by rw[b,iW,Nat.mul_succ]
  have R:=VM m d (cs.drop m) (by rw[D8];omega) fun i f j=>by
   rw[HZ,show m+i*m=(i+1)*m by rw[jL];omega];exact h (i+1) f (by simpa using j)
  rw[V3,←e,←R,Ed]
def amW{b m:Nat}{a:List (List Int)}(s:P.underlying t=some (.array m b))(u:P.underlying b=some (.array n R))(v:P.underlying R=some (.int k))(w:P.cellsOf R=1)(j:P.cellsOf b=n)(F:P.cellsOf t=n*m)(x:a.length=m)(y:∀r∈a,r.length=n)
 (h:DataW.trod (fun _=>()) P Q 0 (fun _=>true) false S t cs=some (.agg (a.map fun r=>.agg (r.map fun z=>.lit (.int k z))),p)):cs=(a.flatten).map fun z=>.int k z:=by
 obtain⟨c,A,_,B,H,I,C⟩:=DataW.trod_array s h;have D:(a.map fun r=>(DataW.agg (r.map fun z=>DataW.lit (.int k z)):DataW Unit))=c.map (·.1):=by
  have:=iX Prod.fst B;simpa using this
 have R:=VM n (a.map fun r=>r.map fun z=>Value.int k z) cs (by rw[mA,x];omega) fun i r hi=>by
  rw[ef,bT]at hi;obtain⟨e,f,rfl⟩:=hi;have J:i<a.length:=(dW.1 f).1;have o:=C i (by omega);rw[j]at o;have d:c[i]?.map (·.1)=some (.agg (e.map fun z=>.lit (.int k z))):=by
   rw[←ef,←D,ef,f];rfl
  have q:i<c.length:=by omega
  rw[bX q,ig]at d;have d:=dV d;have E:DataW.trod (fun _=>()) P Q 0 (fun _=>true) false A b ((cs.drop (i*n)).take n)=some (.agg (e.map fun z=>.lit (.int k z)),(c[i]).2):=by
   rw[←d,o,bX q]
  exact VL u v w j (y e (pJ f)) E
 rw[R,List.map_flatten]
def HI(Q:World)(g:Nat)(k:IntKind)(l:List Int):Prop:=g<Q.heap.size∧∀(i:Nat) z,l[i]? =some z→Q.cell? (at' g i)=some (.int k z)
def VN{name:String}{cs:Array Value}(b:Tryz.prog.globalNamed name=some g)(a:Q.var? Tryz.prog name=some cs)(d:cs.toList=l.map fun z=>.int k z):HI Q g k l:=by
 have e:=World.var?_cell b a;have h:∀i:Nat,cs[i]? =(l.map fun z=>Value.int k z)[i]? :=fun i=>by rw[←d,HY]
 refine⟨?_,fun i z j=>?_⟩
 ·simp only[World.var?,b,Option.bind_some]at a;split at a
  ·rename_i c t f m;exact(dX.1 m).1
  ·cases a
 ·show Q.cell? ⟨g,i,none⟩=_;rw[e i,h i,ef,j];rfl
abbrev yW:List (String×DataW Unit):=Rows.fnArgon2Row.laid
def amX(h:laidMetH Tryz.prog yW Q):HI Q 0 .u8 HG.flatten∧HI Q 4 .u64 HH:=by
 have c:laidMet Tryz.prog [("pub-wardkeep/pub/crypto/blake2b.errKeySize",Rows.laid_pub_wardkeep_pub_crypto_blake2b_errKeySize),("pub-wardkeep/pub/crypto/blake2b.errHashSize",Rows.laid_pub_wardkeep_pub_crypto_blake2b_errHashSize),("pub-wardkeep/pub/crypto/blake2b.iv",Rows.laid_pub_wardkeep_pub_crypto_blake2b_iv),("pub-wardkeep/pub/crypto/blake2b.precomputed",Rows.laid_pub_wardkeep_pub_crypto_blake2b_precomputed)] Q:=h;obtain⟨m,h,_⟩:=c;obtain⟨o,q,r,s,u,v,w,cr,x,d2,h,_⟩:=h;obtain⟨y,z,A,B,C,D,E,F,H,I,h,_⟩:=h;obtain⟨bf,J,K,f4,L,M,d,e,gN,a,h,_⟩:=h;obtain⟨N,O,T,U,V,W,f,i,j,b,h,_⟩:=h;obtain rfl:=dV (VJ.symm.trans f);obtain rfl:=dV (VK.symm.trans d);obtain rfl:=dV (amQ.symm.trans i);obtain rfl:=dV (amR.symm.trans e);rw[amO]at b;rw[amP]at a;exact⟨VN VJ j (amW Tryz.underlying82 Tryz.underlying81 Tryz.underlying5 NO amS amT (by kernel_rfl) (by decide) b),VN VK gN (VL Tryz.underlying142 Tryz.underlying51 amU amV (by kernel_rfl) a)⟩
def VO [aR](h:HI Q g k l):gZ (2*g)<Q.heap.size∧∀(i:Nat) a,(l.map fun z=>af.num (.int k (.c z)))[i]? =some a→∃v,Q.cell? (gz (2*g) i)=some v∧aC (fun _=>none) a v:=by
 obtain⟨h1,h2⟩:=h;refine⟨by rw[Yc];exact h1,fun i a b=>?_⟩;rw[ef,bT]at b;obtain⟨z,d,rfl⟩:=b;exact⟨.int k z,by rw[IW];exact h2 i z d,.num (.int k (.c z))⟩
def amY [aR](h:laidMetH Tryz.prog yW Q):∀g l,bB g=some l→gZ g<Q.heap.size∧∀(i:Nat) b,l[i]? =some b→∃v,Q.cell? (gz g i)=some v∧aC (fun _=>none) b v:=by
 obtain⟨h1,h4⟩:=amX h;intro g l a;unfold bB at a;split at a
 ·injection a with a;subst a;rw[amM];exact VO h1
 ·injection a with a;subst a;rw[amN];exact VO h4
 ·cases a
noncomputable def low:Nat:=(World.holding Tryz.prog default ⟨#[],#[],[]⟩).heap.size
abbrev amZ:ByteArray:={data:=#[98,108,97,107,101,50,98,58,32,105,110,118,97,108,105,100,32,104,97,115,104,32,115,105,122,101]}
abbrev am0:ByteArray:={data:=#[98,108,97,107,101,50,98,58,32,105,110,118,97,108,105,100,32,107,101,121,32,115,105,122,101]}
def VP(os:Os):World:=
 let b:=World.holding Tryz.prog os ⟨#[.cells #[.string amZ] 188,.cells #[.string am0] 188],#[],[]⟩
 {b with heap:=((((b.heap).modify 0 (fun a=>match a with|.cells _ t f=>.cells (HG.flatten.map fun z=>Value.int .u8 z).toArray t f|a=>a)).modify 2 (fun a=>match a with|.cells _ t f=>.cells #[.iface 166 (.pointer (some ⟨low,0,none⟩))] t f|a=>a)).modify 3 (fun a=>match a with|.cells _ t f=>.cells #[.iface 166 (.pointer (some ⟨low+1,0,none⟩))] t f|a=>a)).modify 4 (fun a=>match a with|.cells _ t f=>.cells (HH.map fun z=>Value.int .u64 z).toArray t f|a=>a)}
def am1(os:Os)(args:Array Value):laidMetH Tryz.prog yW ((VP os).forCall (fun _ _=>0) ⟨#[],args,[]⟩).memory:=
 laidMetH_of_parts (laidMet_of_run' 8 (by kernel_rfl) (by kernel_rfl)) (by kernel_rfl)
end
section
open Go Go.ay
variable [aR][aG][bl]
abbrev HJ:=U 8→U 8→U 8→U 8→Nat→Nat→Nat→Nat→Nat→Nat→Nat→Nat→Int→Int→Int→Int→Nat→U 8
def NP(d:HJ):bV Hg:={o3 with out:=fun⟨a,b,c,e,bD,na,bC,nb,bO,bG,bW,ne,aN,ps,ke,la,len⟩=>[⟨.aj a,.ro⟩,⟨.aj b,.ro⟩,⟨.aj c,.ro⟩,⟨.aj e,.ro⟩,⟨.aj (d a b c e bD na bC nb bO bG bW ne aN ps ke len la.toNat),.own⟩]}
def am2:NP (fun a b c d e f g h i j k l m n ke len p=>ou a b c d e f g h i j k l m n ke len p)=o3:=rfl
end
section
open Go Go.ay
variable [aR][aG]
variable{G:Nat→Option (List af)}{β:aE}{Q:List ah}{w:World}
abbrev kB:ah:=⟨.aj (U.of []),.ro⟩
def NQ(e:ay.Spec):ay.Spec:=fun args Q f=>
 match args with
 |a::b::c::.atom .cD::.atom .cD::r=>
  match e (a::b::c::.ref (.sl Q.length (.c 0) (.s 0) none)::.ref (.sl (Q.length+1) (.c 0) (.s 0) none)::r) (Q++[kB,kB]) f with
  |some d=>some ⟨d.v,(d.H.set Q.length ⟨.gen [],.bn⟩).set (Q.length+1) ⟨.gen [],.bn⟩,d.dec,d.cond⟩|none=>none
 |_=>none
def am3(h:aM G β Q w):aM G β (Q++[kB,kB]) w:=by
 have o:∀b,Q.length≤b→β b=none:=fun b d=>by
  cases q:β b with
  |none=>rfl|some c=>exact absurd (h.fl b c q) (Nat.not_lt.2 d)
 have i:∀(b:Nat) k,(Q++[kB,kB])[b]? =some k→Q[b]? =some k∨(Q.length≤b∧k=kB):=fun b k a=>by
  rcases cu b Q.length with d|d
  ·rw[gV d]at a;exact .inl a
  ·rw[gL d]at a;refine .inr ⟨d,?_⟩;have:=pJ a;simpa using this
 refine⟨fun b k a j=>?_,fun b m k p c r s a t e j f n=>?_,fun b c f=>?_,h.dA,fun b k c a e f g l u=>?_⟩
 ·rcases i b k a with h1|⟨h1,rfl⟩
  ·exact h.blk b k h1 j
  ·exact .inr ⟨rfl,o b h1⟩
 ·rcases i b k a with h1|⟨h1,rfl⟩
  ·rcases i m p t with h2|⟨h2,rfl⟩
   ·exact h.dL b m k p c r s h1 h2 e j f n
   ·rw[o m h2]at n;cases n
  ·cases e
 ·have:=h.fl b c f;simp;omega
 ·rcases i b k a with h1|⟨h1,rfl⟩
  ·exact h.apart b k c h1 e f g l u
  ·cases e
def am4:bJ β Q w β (Q++[kB,kB]) w:=by
 have r:=bJ.refl β Q w;refine⟨r.le,by simp,rfl,rfl,rfl,aV _,r.kept,fun c g d=>?_,r.old⟩;obtain⟨b,k,e,h1,h2,h3,h4⟩:=d;rcases cu b Q.length with a|a
 ·rw[gV a]at h1;exact⟨b,k,e,h1,h2,h3,h4⟩
 ·rw[gL a]at h1;have:=pJ h1;have f:k=kB:=by simpa using this
  subst f;cases h2
def am5{P:Program}{f:FuncId}{q:ay.Spec}(h:dF P G f q):dF P G f (NQ q):=by
 intro args Q O r e;unfold NQ at e;split at e
 case h_2=>cases e
 rename_i a b c t;split at e
 case h_2=>cases e
 rename_i l g;injection e with e;subst e;obtain⟨h1,h2⟩:=h _ _ _ _ g;refine⟨fun i k d n=>?_,fun x β w vs j y=>?_⟩
 ·have d:((l.H.set Q.length ⟨.gen [],.bn⟩).set (Q.length+1) ⟨.gen [],.bn⟩)[i]? =some k:=d;rw[wW]at d;split at d
  ·split at d
   ·injection d with d;subst d;cases n
   ·cases d
  rename_i dB;rw[wW]at d;split at d
  ·split at d
   ·injection d with d;subst d;cases n
   ·cases d
  rename_i R;obtain⟨z,m,A⟩:=h1 i k d n;rcases cu i Q.length with o|o
  ·rw[gV o]at m;exact⟨z,m,A⟩
  ·rw[gL o]at m;have:i-Q.length<2:=by
    have:=(dW.1 m).1;simpa using this
   omega
 have B:aK β (a::b::c::.ref (.sl Q.length (.c 0) (.s 0) none)::.ref (.sl (Q.length+1) (.c 0) (.s 0) none)::t) vs:=by
  obtain⟨D,e⟩:=j;refine⟨by rw[←D];rfl,fun i l v g j=>?_⟩;have ex:i=3∨i=4∨((a::b::c::af.atom .cD::af.atom .cD::t)[i]? =some l):=by
   rcases i with _|_|_|_|_|i
   ·exact .inr (.inr g)
   ·exact .inr (.inr g)
   ·exact .inr (.inr g)
   ·exact .inl rfl
   ·exact .inr (.inl rfl)
   ·exact .inr (.inr g)
  rcases ex with rfl|rfl|ex
  ·have:=e 3 _ v rfl j;injection g with g;subst g;cases this;exact .sl _ (.c 0) (.s 0) none none 0 (aV _) (fun C p=>by cases p) (.inl rfl)
  ·have:=e 4 _ v rfl j;injection g with g;subst g;cases this;exact .sl _ (.c 0) (.s 0) none none 0 (aV _) (fun C p=>by cases p) (.inl rfl)
  ·exact e i l v ex j
 obtain⟨E,F⟩:=h2 x β w vs B (am3 y);refine⟨E,F.mono fun S w' I=>?_⟩;obtain⟨u,J,K,L,M,N⟩:=I;exact⟨u,J,K,L,(M.kill _ _).kill _ _,am4.trans (N.trans ((bJ.kill _ _).trans (bJ.kill _ _)))⟩
end
section
open Go Go.ay
variable [aR][aG][bl]
def HK:bV Hz:={jY with out:=fun⟨a,b,_,_,_,_,_,_,_,_,_⟩=>[⟨.aj a,.ro⟩,⟨.aj b,.ro⟩,cp,cp],val:=fun _=>.obj .bA [.atom .cD,.atom (.bool (.c false))],aT:=fun⟨_,_,_,_,_,_,t,m,p,k,d⟩=>decide (0≤t∧t≤4∧0≤m∧m≤256∧0≤p∧p≤8∧1≤k∧k≤1024∧(t<1∨p<1)∧0≤d∧d≤1)}
def kE(Q:qu)(R:HJ):FuncId→Option ay.Spec|8=>some ny.spec|13=>some (NG Q).spec|10=>some (NQ (NP R).spec)|12=>some HD|_=>none
def Bc:FuncId→Option ay.Spec|8=>some ny.spec|13=>some HK.spec|_=>none
abbrev ld(a b:U 8)(t m p k P:Int):List Bool:=[(decide (p<1)==false),(decide (t<1)==false),(decide (t<1)==false),(decide (t<1)==false),(decide (t<1)==false),decide (((0+a.n)≤a.n∧(a.n≤1000000∧((0+b.n)≤b.n∧(b.n≤1000000∧((1:Int)≤t∧(t≤4∧((0:Int)≤m∧(m≤256∧((1:Int)≤p∧(p≤8∧((1:Int)≤k∧k≤1024)))))))))))),((!decide (k≤1024))==false),(decide ((1:Int)≤k)==true),(decide ((1:Int)≤k)==true),(decide ((1:Int)≤k)==true),(decide (p≤8)==true),(decide (p≤8)==true),(decide (p≤8)==true),(decide ((0:Int)≤p)==true),(decide ((0:Int)≤p)==true),(decide ((0:Int)≤p)==true),(decide (m≤256)==true),(decide (m≤256)==true),(decide (m≤256)==true),(decide ((0:Int)≤m)==true),(decide ((0:Int)≤m)==true),(decide ((0:Int)≤m)==true),(decide (t≤4)==true),(decide (t≤4)==true),(decide (t≤4)==true),(decide ((0:Int)≤t)==true),(decide ((0:Int)≤t)==true),(decide ((0:Int)≤t)==true),(decide ((1:Int)<P)==false),(decide ((1:Int)<P)==false),(decide ((65536:Int)<(b.n:Int))==false),(decide ((65536:Int)<(a.n:Int))==false),(decide ((1:Int)<P)==false),(decide ((1:Int)<P)==false),(decide ((1:Int)<P)==false),(decide ((1:Int)<P)==false),(decide (P<0)==false),(decide (P<0)==false),(decide (P<0)==false),(decide ((2147483647:Int)<(b.n:Int))==false),(decide ((2147483647:Int)<(a.n:Int))==false),(decide ((2147483647:Int)<(a.n:Int))==false),(decide ((2147483647:Int)<(a.n:Int))==false),(decide ((2147483647:Int)<(a.n:Int))==false)]
abbrev kF(d:FuncId→Option ay.Spec)(a b:U 8)(t m p k P:Int)(e:List Bool):=verdict (b9 d aU 4 [.num (.int .i64 (.s P)),.ref (.sl 0 (.c 0) (.s a.n) none),.ref (.sl 1 (.c 0) (.s b.n) none),.agg [.num (.int .i64 (.s t)),.num (.int .i64 (.s m)),.num (.int .i64 (.s p)),.num (.int .i64 (.s k))]] ⟨[⟨.aj a,.ro⟩,⟨.aj b,.ro⟩],bQ,e,[]⟩)
section
variable(Q:qu)(R:HJ)(a b:U 8)(t m p k P:Int)
def am6:kF (kE Q R) a b t m p k P (bt 4 15)=some (true,[(decide ((2147483647:Int)<(a.n:Int))==true),(decide ((2147483647:Int)<(a.n:Int))==true),(decide ((2147483647:Int)<(a.n:Int))==true),(decide ((2147483647:Int)<(a.n:Int))==true)]++(ld a b t m p k P).drop 44):=by kernel_rfl
def am7:kF (kE Q R) a b t m p k P (bt 5 16)=some (true,[(decide ((2147483647:Int)<(b.n:Int))==true)]++(ld a b t m p k P).drop 40):=by kernel_rfl
def am8:kF (kE Q R) a b t m p k P (bt 8 224)=some (true,[decide (True),(decide (P<0)==true),(decide (P<0)==true),(decide (P<0)==true)]++(ld a b t m p k P).drop 39):=by kernel_rfl
def am9:kF (kE Q R) a b t m p k P (bt 14 16128)=some (true,[decide (True),(decide ((1:Int)<P)==true),(decide ((1:Int)<P)==true),(decide ((1:Int)<P)==true),(decide ((1:Int)<P)==true),(decide ((1:Int)<P)==true),(decide ((1:Int)<P)==true)]++(ld a b t m p k P).drop 36):=by kernel_rfl
def ana:kF (kE Q R) a b t m p k P (bt 15 4096)=some (true,[decide (True),(decide ((1:Int)<P)==false),(decide ((1:Int)<P)==false),(decide ((65536:Int)<(a.n:Int))==true)]++(ld a b t m p k P).drop 32):=by kernel_rfl
def anb:kF (kE Q R) a b t m p k P (bt 16 8192)=some (true,[decide (True),(decide ((1:Int)<P)==false),(decide ((1:Int)<P)==false),(decide ((65536:Int)<(b.n:Int))==true)]++(ld a b t m p k P).drop 31):=by kernel_rfl
def anc:kF (kE Q R) a b t m p k P (bt 19 0)=some (true,[decide (True),(decide ((0:Int)≤t)==false),(decide ((0:Int)≤t)==false),(decide ((0:Int)≤t)==false)]++(ld a b t m p k P).drop 28):=by kernel_rfl
def ane:kF (kE Q R) a b t m p k P (bt 22 458752)=some (true,[decide (True),(decide (t≤4)==false),(decide (t≤4)==false),(decide (t≤4)==false)]++(ld a b t m p k P).drop 25):=by kernel_rfl
def anf:kF (kE Q R) a b t m p k P (bt 25 4128768)=some (true,[decide (True),(decide ((0:Int)≤m)==false),(decide ((0:Int)≤m)==false),(decide ((0:Int)≤m)==false)]++(ld a b t m p k P).drop 22):=by kernel_rfl
def ang:kF (kE Q R) a b t m p k P (bt 28 33488896)=some (true,[decide (True),(decide (m≤256)==false),(decide (m≤256)==false),(decide (m≤256)==false)]++(ld a b t m p k P).drop 19):=by kernel_rfl
def anh:kF (kE Q R) a b t m p k P (bt 31 268369920)=some (true,[decide (True),(decide ((0:Int)≤p)==false),(decide ((0:Int)≤p)==false),(decide ((0:Int)≤p)==false)]++(ld a b t m p k P).drop 16):=by kernel_rfl
def ani:kF (kE Q R) a b t m p k P (bt 34 2147418112)=some (true,[decide (True),(decide (p≤8)==false),(decide (p≤8)==false),(decide (p≤8)==false)]++(ld a b t m p k P).drop 13):=by kernel_rfl
def anj:kF (kE Q R) a b t m p k P (bt 37 17179803648)=some (true,[decide (True),(decide ((1:Int)≤k)==false),(decide ((1:Int)≤k)==false),(decide ((1:Int)≤k)==false)]++(ld a b t m p k P).drop 10):=by kernel_rfl
def ank:kF (kE Q R) a b t m p k P (bt 38 274877841408)=some (true,[decide (True),((!decide (k≤1024))==true)]++(ld a b t m p k P).drop 7):=by kernel_rfl
def anl:kF Bc a b t m p k P (bt 42 4260607492096)=some (true,[decide (True),(decide (t<1)==true),(decide (t<1)==true),(decide (t<1)==true),(decide (t<1)==true),decide (((0:Int)≤t∧(t≤4∧((0:Int)≤m∧(m≤256∧((0:Int)≤p∧(p≤8∧((1:Int)≤k∧(k≤1024∧((t<1∨p<1)∧((0:Int)≤P∧P≤1)))))))))))]++(ld a b t m p k P).drop 6):=by kernel_rfl
def anm:kF Bc a b t m p k P (bt 43 4535485399040)=some (true,[decide (True),(decide (p<1)==true),(decide (t<1)==false),(decide (t<1)==false),(decide (t<1)==false),(decide (t<1)==false),decide (((0:Int)≤t∧(t≤4∧((0:Int)≤m∧(m≤256∧((0:Int)≤p∧(p≤8∧((1:Int)≤k∧(k≤1024∧((t<1∨p<1)∧((0:Int)≤P∧P≤1)))))))))))]++(ld a b t m p k P).drop 6):=by kernel_rfl
def ann:kF (kE Q R) a b t m p k P (bt 43 137438887936)=some (true,[decide (True),(ND (Q a b 0 a.n 0 b.n (BitVec.ofInt 32 t) (BitVec.ofInt 32 m) (BitVec.ofInt 8 p) (BitVec.ofInt 32 k) (if P=0 then 1 else 2)) (R a b (U.of []) (U.of []) 0 a.n 0 b.n 0 0 0 0 (P+1) t m k p.toNat) 0 0 ((BitVec.ofInt 32 k)).toNat ((k):Int).toNat),decide (((0+a.n)≤a.n∧(a.n≤1000000∧((0+b.n)≤b.n∧(b.n≤1000000∧((0:Nat)≤0∧((0:Nat)≤1000000∧((0:Nat)≤0∧((0:Nat)≤1000000∧((0:Int)≤(P+1)∧((P+1)≤2∧((1:Int)≤t∧(t≤4∧((0:Int)≤m∧(m≤256∧((1:Int)≤p∧(p≤8∧((1:Int)≤k∧k≤1024)))))))))))))))))),decide ((((-9223372036854775808):Int)≤(P+1)∧(P+1)≤9223372036854775807))]++ld a b t m p k P):=by kernel_rfl
end
abbrev jH:U 8:=U.of []
def eI.nil{c:bq}{P:Nat→BitVec 8}{d:jB}{N:Nat}(f:eI c P d N):eI c P (Sl d) N:=by
 obtain⟨q,r,e,g⟩:=d;obtain⟨h,j,n,o⟩:=f;refine⟨h,j,?_,fun i hi=>?_⟩
 ·show g+0=_;rw[Wo];exact n
 ·show(cw e).l.getD i 0#8=_;have h1:i<128:=by unfold aP at hi;omega
  rw[←o i hi];exact yJ e i h1
def eI.tB{e:bq}{P:Nat→BitVec 8}{d:jB}{c:U 8}(f:eI e P d c.n)(g:∀i,i<(gD c jH 0 0).n→P i=(gD c jH 0 0).l.getD i 0#8):eI e P (tB d) (gD c jH 0 0).n:=by
 have a:=eI.step f (sw 0) 0 4 (by rw[UV];omega) fun i hi=>by
  rw[g _ (by rw[Ng];omega),UU _ _ _ _ _ hi,cM]
 have h:(U.of [0#8,0#8,0#8,0#8]:U 8)=sw 0:=rfl;unfold Go.Proofs.YtcminalaicidiaaGreatDoor.tB;rw[h];exact a.nil
section
variable(a b:U 8)(S Q T R:Nat)(t m:BitVec 32)(p k V:Int)
def ano(B:S+Q≤a.n)(F:Q≤1000000)(C:T+R≤b.n)(H:R≤1000000):
 gB (C5 a b S Q T R t m (BitVec.ofInt 32 p) (BitVec.ofInt 32 k) V)=om (ur a b jH jH S Q T R 0 0 0 0 t m p k V) 0 (rB Q R 0 0) 64:=by
 rw[UW];generalize s:Hr t m p k V=d;have n0:d.n=24:=by rw[←s];rfl
 generalize h:gD d a S Q=e;generalize j:gD e b T R=f;generalize o:gD f jH 0 0=g;generalize q:gD g jH 0 0=c;have dB:e.n=d.n+4+Q:=by rw[←h];rfl
 have I:f.n=e.n+4+R:=by rw[←j];rfl
 have J:g.n=f.n+4+0:=by rw[←o];rfl
 have K:c.n=g.n+4+0:=by rw[←q];rfl
 have u:∀i,i<g.n→c.l.getD i 0#8=g.l.getD i 0#8:=fun i hi=>by rw[←q];exact wR _ _ _ _ _ hi
 have v:∀i,i<f.n→c.l.getD i 0#8=f.l.getD i 0#8:=fun i hi=>by rw[u i (by omega),←o];exact wR _ _ _ _ _ hi
 have w:∀i,i<e.n→c.l.getD i 0#8=e.l.getD i 0#8:=fun i hi=>by rw[v i (by omega),←j];exact wR _ _ _ _ _ hi
 have D:∀i,i<d.n→c.l.getD i 0#8=d.l.getD i 0#8:=fun i hi=>by rw[w i (by omega),←h];exact wR _ _ _ _ _ hi
 have r:=eI.step (eI.new 64 (fun i=>c.l.getD i 0#8) p9) d 0 24 (by omega) (fun i hi=>by rw[cM];exact(D i (by omega)).symm);have r:eI (bU 64) (fun i=>c.l.getD i 0#8) (Gk t m (BitVec.ofInt 32 p) (BitVec.ofInt 32 k) V) d.n:=by rw[n0,←s]at *;exact r
 have x:=eI.nZ r a S Q B (fun i hi=>by rw[h]at hi⊢;exact w i hi);rw[h]at x;have y:=eI.nZ x b T R C (fun i hi=>by rw[j]at hi⊢;exact v i hi);rw[j]at y;have z:=eI.tB y (fun i hi=>by rw[o]at hi⊢;exact u i hi);rw[o]at z;have A:=eI.tB z (fun i hi=>by rw[q]);rw[q]at A;have E:rB Q R 0 0=c.n:=by unfold rB;omega
 unfold C5;rw[GR A (by omega),GU _ _ _ _ (by omega) (by omega) (by omega),E];exact Dw _ _ fun i _=>by rw[cM]
def anp(c:S+Q≤a.n)(d:Q≤1000000)(e:T+R≤b.n)(f:R≤1000000):
 tY (C5 a b S Q T R t m (BitVec.ofInt 32 p) (BitVec.ofInt 32 k) V)=tY (AD a b jH jH S Q T R 0 0 0 0 t m (BitVec.ofInt 32 p) (BitVec.ofInt 32 k) V):=by
 unfold tY;rw[ano a b S Q T R t m p k V c d e f,UX a b jH jH S Q T R 0 0 0 0 t m p k V c d e f (aV _) (by decide) (aV _) (by decide)]
end
def anq(a b:U 8)(S Q T R:Nat)(t m:BitVec 32)(p:BitVec 8)(k:BitVec 32)(V:Int)(e:S+Q≤a.n)(f:Q≤1000000)(g:T+R≤b.n)(i:R≤1000000):
 ez a b S Q T R t m p k V=Hq a b jH jH S Q T R 0 0 0 0 t m p k V:=by
 have d:∀c:BitVec 32,BitVec.ofInt 32 (c.toNat:Int)=c:=fun c=>by apply mo;rw[qw];have:=c.isLt;omega
 have:=anp a b S Q T R t m ((p.setWidth 32).toNat:Int) (k.toNat:Int) V e f g i;rw[d,d]at this;unfold ez Hq;have h:s3 a b S Q T R t m (p.setWidth 32) k V=wP a b jH jH S Q T R 0 0 0 0 t m (p.setWidth 32) k V:=this;rw[h]
def jZ:HJ:=fun a b c d e f g h i j k l m n ke len p=>ou a b c d e f g h i j k l m n ke len p
def anr(X:U 64)(M:Nat)(mem p kl:BitVec 32):(kD X M mem p kl).n=kl.toNat:=by
 have a:kD X M mem p kl=fZ (U.zero 8 (ie (dJ X M mem p kl)).kl.toNat) (ie (dJ X M mem p kl)).b 0 (ie (dJ X M mem p kl)).kl.toNat (ie (dJ X M mem p kl)).kl.toNat 0 1024:=rfl;rw[a,Vx,VA];rfl
def ans(a b c d:U 8)(e f g h i j k l:Nat)(m o ke len:Int)(p:Nat)(h1:1≤len)(h2:len≤1024):(ou a b c d e f g h i j k l m o ke len p).n=len.toNat:=by
 unfold ou;exact T6 _ _ _ len (by omega) (by omega)
def ant(b:br 33 m8.spec)(c:aG.plain 13)(d:br 8 ny.spec):∀f a,kE ez jZ f=some a→br f a:=by
 intro f a h;unfold kE at h;split at h
 ·cases h;exact d
 ·cases h;rw[Vw];exact Vs b c
 ·cases h;have e:NP jZ=o3:=am2;rw[e];exact am5 akG
 ·cases h;exact amm
 ·cases h
def anu(b:br 13 HK.spec)(c:br 8 ny.spec):∀f a,Bc f=some a→br f a:=by
 intro f a h;unfold Bc at h;split at h
 ·cases h;exact c
 ·cases h;exact b
 ·cases h
def anv(a b:U 8)(c d e f:Nat)(t m:BitVec 32)(p:BitVec 8)(k:BitVec 32)(g:Int):(ez a b c d e f t m p k g).n=k.toNat:=by
 unfold ez A6;exact anr ..
def anw(a b:U 8)(t m p k d:Int):(∃g cs,kF (kE ez jZ) a b t m p k d g=some (true,cs)∧∀h∈cs,h=true)∨(∃g cs,kF Bc a b t m p k d g=some (true,cs)∧∀h∈cs,h=true):=by
 by_cases o:2147483647<(a.n:Int);refine .inl ⟨_,_,am6 ez jZ a b t m p k d,?_⟩;rotate_left;by_cases q:2147483647<(b.n:Int);refine .inl ⟨_,_,am7 ez jZ a b t m p k d,?_⟩;rotate_left;by_cases r:d<0;refine .inl ⟨_,_,am8 ez jZ a b t m p k d,?_⟩;rotate_left;by_cases s:1<d;refine .inl ⟨_,_,am9 ez jZ a b t m p k d,?_⟩;rotate_left;by_cases u:65536<(a.n:Int);refine .inl ⟨_,_,ana ez jZ a b t m p k d,?_⟩;rotate_left;by_cases v:65536<(b.n:Int);refine .inl ⟨_,_,anb ez jZ a b t m p k d,?_⟩;rotate_left;by_cases w:t<0;refine .inl ⟨_,_,anc ez jZ a b t m p k d,?_⟩;rotate_left;by_cases x:4<t;refine .inl ⟨_,_,ane ez jZ a b t m p k d,?_⟩;rotate_left;by_cases y:m<0;refine .inl ⟨_,_,anf ez jZ a b t m p k d,?_⟩;rotate_left;by_cases z:256<m;refine .inl ⟨_,_,ang ez jZ a b t m p k d,?_⟩;rotate_left;by_cases A:p<0;refine .inl ⟨_,_,anh ez jZ a b t m p k d,?_⟩;rotate_left;by_cases B:8<p;refine .inl ⟨_,_,ani ez jZ a b t m p k d,?_⟩;rotate_left;by_cases C:k<1;refine .inl ⟨_,_,anj ez jZ a b t m p k d,?_⟩;rotate_left;by_cases D:1024<k;refine .inl ⟨_,_,ank ez jZ a b t m p k d,?_⟩;rotate_left;by_cases E:t<1;refine .inr ⟨_,_,anl a b t m p k d,?_⟩;rotate_left;by_cases F:p<1;refine .inr ⟨_,_,anm a b t m p k d,?_⟩;rotate_left;obtain⟨T,rfl⟩:∃T:Nat,t=(T:Int):=⟨t.toNat,by omega⟩;obtain⟨P,rfl⟩:∃P:Nat,p=(P:Int):=⟨p.toNat,by omega⟩;obtain⟨f,rfl⟩:∃f:Nat,k=(f:Int):=⟨k.toNat,by omega⟩;have em:(if d=0 then(1:Int)else 2)=d+1:=by split<;>omega
 have cR:=alN (a:=a) (b:=b) (c:=jH) (e:=jH) (bD:=0) (na:=a.n) (bC:=0) (nb:=b.n) (bO:=0) (bG:=0) (bW:=0) (ne:=0) (d+1) (T:=T) (P:=P) (fN:=f) (ke:=m) (p:=BitVec.ofInt 8 (P:Int)) (by omega) (by omega) (by omega) (by omega) (by omega) (by omega) (by omega) (by omega) (by omega) ⟨by omega,by omega⟩ (by omega) (by omega) (by omega) (by omega) (by rw[qw];omega) rfl rfl;have i:(BitVec.ofInt 32 (f:Int)).toNat=f:=by rw[qw];omega
 have l:ND (ez a b 0 a.n 0 b.n (BitVec.ofInt 32 (T:Int)) (BitVec.ofInt 32 m) (BitVec.ofInt 8 (P:Int)) (BitVec.ofInt 32 (f:Int)) (if d=0 then 1 else 2)) (jZ a b jH jH 0 a.n 0 b.n 0 0 0 0 (d+1) T m f ((P:Int)).toNat) 0 0 (BitVec.ofInt 32 (f:Int)).toNat ((f:Int)).toNat=true:=by
  rw[em];refine bu ⟨by rw[i];omega,by rw[anv];omega,?_,by omega,fun j H=>?_⟩
  ·show 0+_≤(ou a b jH jH 0 a.n 0 b.n 0 0 0 0 (d+1) T m f ((P:Int)).toNat).n;rw[ans _ _ _ _ _ _ _ _ _ _ _ _ _ _ _ _ _ (by omega) (by omega)];omega
  ·rw[cM,anq _ _ _ _ _ _ _ _ _ _ _ (by omega) (by omega) (by omega) (by omega)];have:=cR j (by omega);rw[eA];exact this
 refine .inl ⟨_,_,ann ez jZ a b T m P f d,?_⟩
 all_goals simp only[ld,List.drop_succ_cons,HX,jK,nh]
 all_goals repeat'(refine aA ?_ ?_)
 all_goals first|exact aX|exact l|rfl|(simp only[cz]<;>omega)
end
section
open Go Go.ay Conc Conc.Lib
variable [aR][aG][bl]
section
variable(w:World)(X:Nat→Value)(u v:Value)(cs:List Frame)
abbrev D7(i:Int):Value:=(bk.int .i64 (.s i)).val
noncomputable abbrev NR(a t m p k:Int):Goroutine:=G ((base 13).at ⟨⟨[D7 a,X 1,X 2,D7 t,D7 m,D7 p,D7 k]++(List.range' 7 34).map X⟩,[yU 23 u v]⟩ [.code (sub [true,true] (c8 Tryz.prog 13))]) cs
def NS(T:Array Value)(g:Goroutine)(r:List Frame):Prop:=g=G ((baseD 23).at (((⟨#[u,v]++Array.replicate 2 undef,[]⟩:Act).put (some 2) (T.getD 2 undef)).put (some 3) (.bool true)) [.code (sub [true] (c8 Tryz.prog 23))]) (r.headD default::cs)∧(r.headD default).mode=.panicking [{v:=T.getD 2 undef,recovered:=true}]∧(r.headD default).fn=13∧(r.headD default).defers=[]∧(r.headD default).kind=.normal∧(r.headD default).tmps.getD 14 undef=X 14∧(r.headD default).tmps.getD 15 undef=X 15
def HL{w:World}{X:Nat→Value}{u v:Value}{cs:List Frame}(N:Nat){g:Goroutine}(h:yV w N g)(h2:NS X u v cs (uC w N g).frame.tmps (uC w N g) (uC w N g).callers):∃N,yV w N g∧∃T r,NS X u v cs T (uC w N g) r:=⟨N,h,_,_,h2⟩
def anx(m k:Int){kd t p:Int}(h1:kd=0∨kd=1)(h2:t=0∨p=0∧(t=1∨t=2∨t=3∨t=4)):∃N,yV w N (NR X u v cs kd t m p k)∧∃T r,NS X u v cs T (uC w N (NR X u v cs kd t m p k)) r:=by
 rcases h1 with rfl|rfl<;>rcases h2 with rfl|⟨rfl,rfl|rfl|rfl|rfl⟩;apply HL 55;rotate_left 2
 iterate 4 (apply HL 63;rotate_left 2)
 apply HL 56;rotate_left 2
 iterate 4 (apply HL 64;rotate_left 2)
 all_goals first|exact⟨by kernel_rfl,by kernel_rfl,by kernel_rfl,by kernel_rfl,by kernel_rfl,by kernel_rfl,by kernel_rfl⟩|(repeat refine And.intro ⟨by kernel_rfl,by kernel_rfl,fun _ _=>by kernel_rfl⟩ ?_);trivial
end
def anz{g:Nat}{b:Func}{a:Act}{d:List Item}{c:Frame}{cs:List Frame}{v e:Value}{w:World}(f:a.defers=[])(h:Tryz.prog.funcs[g]? =some b)
 (i:(results b a.tmps).run Tryz.prog w=.ok v w) (j:(results b a.tmps).events Tryz.prog w #[]=#[]) (k:c.mode=.panicking [{v:=e,recovered:=true}]) (main:Bool):
 stepG Tryz.prog main (G {(baseD g).at a d with mode:=.returning} (c::cs)) w=.go (G {c with mode:=.returning} cs) w #[]:=by
 simp[G,stepG,unwind,doReturn,Frame.at,baseD,f,h,i,j,k,seen,GStep.after]
abbrev VQ:aJ:=(((⟨[.P 2,.P 3]++List.replicate (an 23-2) .aa,[]⟩:aJ).put (an 23) (some 2) .aa).put (an 23) (some 3) (.atom (.bool (.c true))))
abbrev HM(a b:U 8):List ah:=[⟨.aj a,.ro⟩,⟨.aj b,.ro⟩,⟨.gen [.atom .cD],.own⟩,⟨.gen [.atom (.bool (.c false))],.own⟩]
def anA(a b:U 8):kq 4 (b8 4) (⟨List.replicate 2 .aa,[]⟩,HM a b) (wu ck aU 23 [true] VQ ⟨HM a b,bQ,[],[]⟩) .normal []:=by show _=_;kernel_rfl
def anB(x:aG.plain 13):br 13 HK.spec:=by
 refine HK.wq Vo fun d I β w vs U V J=>⟨⟨Tryz.f13,Tryz.func13,by kernel_rfl,by kernel_rfl⟩,fun cs K W=>?_⟩;obtain⟨a,b,y,z,A,B,t,m,p,k,kd⟩:=d;have I:=bg I;refine Vq x a b y z A B t m p k kd U V J fun g u v L o Y Z C h1 aa=>?_;obtain⟨X,M⟩:∃X:Nat→Value,∀i,g.tmps.getD i undef=X i:=⟨_,fun _=>rfl⟩;obtain⟨C,ab,ad⟩:=C;have j:=Ny (ds:=[yU 23 u v]) ab ad;rw[funext M]at j;have D:∀i,aC o (((rH a b (jY.args ⟨a,b,y,z,A,B,t,m,p,k,kd⟩)).1.put (an 13) (some 16) .aa).get (an 13) i) (X i):=fun i=>M i▸C i;have l:∀i n,((rH a b (jY.args ⟨a,b,y,z,A,B,t,m,p,k,kd⟩)).1.put (an 13) (some 16) .aa).get (an 13) i=.num n→X i=n.val:=fun i n h=>(h▸D i).num_inv;have ae:(List.range 41).map X=[X 0,X 1,X 2,X 3,X 4,X 5,X 6]++(List.range' 7 34).map X:=by kernel_rfl
 rw[j,ae,l 0 (.int .i64 (.s kd)) (by kernel_rfl),l 3 (.int .i64 (.s t)) (by kernel_rfl),l 4 (.int .i64 (.s m)) (by kernel_rfl),l 5 (.int .i64 (.s p)) (by kernel_rfl),l 6 (.int .i64 (.s k)) (by kernel_rfl)];obtain⟨N,ok,T,r,af,ag,ah,ai,ak,al,am⟩:=anx L X u v cs m k (kd:=kd) (t:=t) (p:=p) (by omega) (by omega);generalize r.headD default=c at *;generalize T.getD 2 undef=O at *
 show de Tryz.prog K (NR X u v cs kd t m p k) L;refine HA x N _ ok ?_;rw[af];have E:aG.plain 23:=bl.plain 23 (by kernel_rfl);have h4:bS Tryz.prog 23=4:=by kernel_rfl
 have f4:cK (an 23) 4 o VQ (((⟨#[u,v]++Array.replicate 2 undef,[]⟩:Act).put (some 2) O).put (some 3) (.bool true)):=
  ((Vn (aK.cons Y (aK.cons Z (aK.nil _))) (by decide)).put (fun ao F=>by cases F;decide) (aC.aa O)).put (fun ao F=>by cases F;decide) (aC.bool (.c true))
 refine(Nv (spec:=ck) (fun _ _ h=>by cases h) 23 [true] (m:=100) (by kernel_rfl)).step (n0:=2) (anA a b) SA (by decide) (aV _) J (by rw[h4];exact f4) h1 aa
  (Q:=fun j g w'=>j=.normal∧g.defers=[]∧∃e,(∀b,b<4→e b=o b)∧aM bB e (HM a b) w'∧gl 2 β [⟨.aj a,.ro⟩,⟨.aj b,.ro⟩] w e (HM a b) w')
  (fun g w' e f h H _ k=>⟨rfl,f.defers,e,k,h,H⟩) (baseD 23) [] (c::cs) K ⟨by simp[baseD],E⟩ fun j g w' q=>?_
 obtain⟨rfl,ap,e,aq,h,H⟩:=q;have R:∀b v,b<4→aC o (.P b) v→aC e (.P b) v:=fun b v ar h=>by
  obtain⟨au,av,rfl⟩:=h.qK;exact .ptr b _ au ((aq b ar).trans av)
 have S:Tryz.f23.results=#[]:=by kernel_rfl
 refine de.ctl rfl E (fun _=>stepG_end) (de.ctl rfl E (fun _=>anz ap Tryz.func23 (v:=.tuple #[]) (by simp[results,S]) (by simp[results,S]) ag _) ?_);exact Vr x ah rfl ai ak rfl rfl (by show aC e (.P 2) (c.tmps.getD 14 undef);rw[al];exact R 2 _ (by decide) (D 14)) (by show aC e (.P 3) (c.tmps.getD 15 undef);rw[am];exact R 3 _ (by decide) (D 15)) h H W
end
end Go.Proofs.YtcminalaicidiaaGreatDoor
end

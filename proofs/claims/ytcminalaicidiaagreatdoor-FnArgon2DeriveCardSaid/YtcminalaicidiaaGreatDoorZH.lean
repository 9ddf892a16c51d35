/- Part of FnArgon2Derive. No condition. -/
import Derived.Test.YtcminalaicidiaaGreatDoorZG
import Derived.Test.YtcminalaicidiaaGreatDoorRows
import Derived.WalkKit
import Derived.ProofKit
import Derived.LaidLaws
import Derived.LaidHandle
import Derived.Handed
set_option maxRecDepth 100000
set_option maxHeartbeats 8000000
set_option linter.all false
noncomputable section
namespace Go.Proofs.YtcminalaicidiaaGreatDoor
section
open Go.aA
variable [aR][aF][bq]
def am8{X:U 64}{a:List (List (BitVec 64))}(M:Nat)(d:Rows X a 8):(jK X M 8#32 1#32 4#32).l.getD 0 0#8=ld (eP (b7 4) (Be (a.getD 7 gF)) 1028) 0:=by
 obtain⟨b,c,o,e⟩:=Nt X (rowAt X (aT (8#32-1#32))) M 8#32 1#32 4#32 (8#32/1#32) 0#32 128 (aX _);have g:jK X M 8#32 1#32 4#32=ga (U.zero 8 4) b 0 4 4 0 1024:=by
  have j:dA X M 8#32 1#32 4#32=⟨X,M,8#32,1#32,4#32,8#32/1#32,0#32⟩:=rfl;have k:gS ⟨X,M,8#32,1#32,4#32,8#32/1#32,0#32⟩=⟨X,b,rowAt X (aT (8#32-1#32)),M,8#32,1#32,4#32,8#32/1#32,0#32,((128:Nat):Int)⟩:=c;unfold jK;rw[j,k];rfl
 have p:(U.zero 8 4).n=4:=rfl;rw[g];unfold ga;rw[av (by omega),yP _ _ _ _ _ (by omega) (by omega) (by omega) (by omega),av (by omega),MR _ _ _ _ _ (by omega) (by omega)];have c:eP (b7 4) (iT 4 b 0) (4+1024)=eP (b7 4) (Be (a.getD 7 gF)) 1028:=G4 _ _ fun i hi=>by
  unfold iT Be;split
  ·rfl
  ·have h:=e (i-4) (by omega);rw[cM];refine Eq.trans (b:=cE b (i-4)) rfl (h.trans ?_);unfold yX oh Bd;have m:aK (rowAt X (aT (8#32-1#32))) ((i-4)/8)=(a.getD 7 gF).getD ((i-4)/8) 0#64:=by
    rw[q3 _ _ (by omega)];exact d.get 7 ((i-4)/8) (by omega) (by omega)
   rw[m]
 exact iZ (fun f=>ld f 0) c
def VV{h V:U 8}(M:Nat)(a:V.n=64)(b:h.n=72)(c:∀i,i<64→cE h i=cE V i):(jK (iW 2 8#32 1#32 1#32 (iA h 8#32 1#32)) M 8#32 1#32 4#32).l.getD 0 0#8=NH (eP (b7 64) (iT 1024 (kE V 0 0) 0) (4+72)) (eP (b7 64) (iT 1024 (kE V 1 0) 0) (4+72)):=am8 M (am3 (amT a b c))
def VW{h:List (BitVec 8)}(c:h.length=72){a:U 8}(b:(ot a).l=h):∀i,i<64→cE (ot a) i=cE ((U.of h).sub 0 64) i:=fun i hi=>by
 unfold cE;rw[pG (U.of h) 0 64 i (by show 0+64≤h.length;omega) hi,b,cM];rfl
def am9:N1:=by
 have a:(s7 kG 1#8).l.getD 0 0#8=117#8:=by
  show(jK (iW 2 8#32 1#32 1#32 (iA (ot (rC (U.of [1#8]) Ee 0 1 0 8 1#32 8#32 1#32 4#32 2)) 8#32 1#32)) (8#32).toNat 8#32 1#32 4#32).l.getD 0 0#8=_;rw[VV (V:=N4) _ rfl (NC _) (VW rfl am4),←Vs,am5]
 have b:(s7 kG 2#8).l.getD 0 0#8=183#8:=by
  show(jK (iW 2 8#32 1#32 1#32 (iA (ot (rC (U.of [2#8]) Ee 0 1 0 8 1#32 8#32 1#32 4#32 2)) 8#32 1#32)) (8#32).toNat 8#32 1#32 4#32).l.getD 0 0#8=_;rw[VV (V:=N5) _ rfl (NC _) (VW rfl am6),←Vs,am7]
 unfold N1;rw[a,b];decide
end
section
open Go.ChangeShapes Go.WideShapes Go.RowKit
open Go.aA
variable{Q:World}{k:IntKind}{l:List Int}{P:Program}{t R n S:Nat}{cs:List Value}{p:List MemPlace}{g:Nat}
def HP:List (List Int):=[[0,2,4,6,1,3,5,7,8,10,12,14,9,11,13,15],[14,4,9,13,10,8,15,6,1,0,11,5,12,2,7,3],[11,12,5,15,8,0,2,13,10,3,7,9,14,6,1,4],[7,3,13,11,9,1,12,14,2,5,4,15,6,10,0,8],[9,5,2,10,0,7,4,15,14,11,6,3,1,12,8,13],[2,6,0,8,12,10,11,3,4,7,15,1,13,5,14,9],[12,1,14,4,5,15,13,10,0,6,9,8,7,3,2,11],[13,7,12,3,11,14,1,9,5,15,8,2,0,4,6,10],[6,14,11,0,15,9,3,8,12,13,1,10,2,7,4,5],[10,8,7,1,2,4,6,5,15,9,3,13,11,14,12,0],[0,2,4,6,1,3,5,7,8,10,12,14,9,11,13,15],[14,4,9,13,10,8,15,6,1,0,11,5,12,2,7,3]]
def HQ:List Int:=[7640891576956012808,13503953896175478587,4354685564936845355,11912009170470909681,5840696475078001361,11170449401992604703,2270897969802886507,6620516959819538809]
def ana:F8=HP.flatten.map fun z=>af.num (.int .u8 (.c z)):=by kernel_rfl
def anb:F9=HQ.map fun z=>af.num (.int .u64 (.c z)):=by kernel_rfl
def anc:(Rows.laid_pub_wardkeep_pub_crypto_blake2b_precomputed:DataW Unit)=.agg (HP.map fun r=>.agg (r.map fun z=>.lit (.int .u8 z))):=by kernel_rfl
def ane:(Rows.laid_pub_wardkeep_pub_crypto_blake2b_iv:DataW Unit)=.agg (HQ.map fun z=>.lit (.int .u64 z)):=by kernel_rfl
def VX:Tryz.prog.globalNamed "pub-wardkeep/pub/crypto/blake2b.precomputed" =some 0:=by kernel_rfl
def VY:Tryz.prog.globalNamed "pub-wardkeep/pub/crypto/blake2b.iv" =some 4:=by kernel_rfl
def anf:(Tryz.prog.globals[0]?).map (·.type)=some 82:=by kernel_rfl
def ang:(Tryz.prog.globals[4]?).map (·.type)=some 142:=by kernel_rfl
def VZ:Tryz.prog.cellsOf 5=1:=by kernel_rfl
def anh:Tryz.prog.cellsOf 81=16:=by kernel_rfl
def ani:Tryz.prog.cellsOf 82=192:=by kernel_rfl
def anj:Tryz.prog.cellsOf 51=1:=by kernel_rfl
def ank:Tryz.prog.cellsOf 142=8:=by kernel_rfl
def V0(e:P.underlying t=some (.array n R))(f:P.underlying R=some (.int k))(j:P.cellsOf R=1)(w:P.cellsOf t=n)(x:l.length=n)
 (h:DataW.trod (fun _=>()) P Q 0 (fun _=>true) false S t cs=some (.agg (l.map fun z=>.lit (.int k z)),p)):cs=l.map fun z=>.int k z:=by
 obtain⟨o,m,_,q,y,A,r⟩:=DataW.trod_array e h;have s:l.map (fun z=>(DataW.lit (.int k z):DataW Unit))=o.map (·.1):=by
  have:=iZ Prod.fst q;simpa using this
 refine uH fun i=>?_;rcases cv i n with hi|hi
 ·have c:=r i hi;rw[j,w8,bW (by omega)]at c;obtain⟨z,u,v,B⟩:=DataW.trod_int f c;have b:cs[i]? =some (.int k z):=by
   have b:((cs.drop i).take 1)[0]? =some (.int k z):=by rw[u];rfl
   simpa using b
  have a:(l.map (fun z=>(DataW.lit (.int k z):DataW Unit)))[i]? =some (.lit (.int k z)):=by
   rw[s,dY,bW (by omega),v];rfl
  rw[b,dY];rw[dY]at a;cases d:l[i]? with
  |none=>rw[d]at a;cases a
  |some C=>
   rw[d]at a;simp only[ia,aB,DataW.lit.injEq,Lit.int.injEq,HU]at a;subst a;rfl
 ·rw[di (by omega),di (by rw[lQ];omega)]
def V1{c:Type}(m:Nat):∀(a:List (List c)) (cs:List c),cs.length=m*a.length→(∀(i:Nat) r,a[i]? =some r→(cs.drop (i*m)).take m=r)→cs=a.flatten
 |[],cs,b,_=>by
  have:cs.length=0:=by simpa using b
  simpa using this
 |r::d,cs,b,h=>by
  have e:cs.take m=r:=by simpa using h 0 r rfl
  have o:cs.length=m*d.length+m:=by rw[b,iY,Nat.mul_succ]
  have R:=V1 m d (cs.drop m) (by rw[Eh];omega) fun i f j=>by
   rw[H9,show m+i*m=(i+1)*m by rw[jR];omega];exact h (i+1) f (by simpa using j)
  rw[Wj,←e,←R,Em]
def anl{b m:Nat}{a:List (List Int)}(s:P.underlying t=some (.array m b))(u:P.underlying b=some (.array n R))(v:P.underlying R=some (.int k))(w:P.cellsOf R=1)(j:P.cellsOf b=n)(F:P.cellsOf t=n*m)(x:a.length=m)(y:∀r∈a,r.length=n)
 (h:DataW.trod (fun _=>()) P Q 0 (fun _=>true) false S t cs=some (.agg (a.map fun r=>.agg (r.map fun z=>.lit (.int k z))),p)):cs=(a.flatten).map fun z=>.int k z:=by
 obtain⟨c,A,_,B,H,I,C⟩:=DataW.trod_array s h;have D:(a.map fun r=>(DataW.agg (r.map fun z=>DataW.lit (.int k z)):DataW Unit))=c.map (·.1):=by
  have:=iZ Prod.fst B;simpa using this
 have R:=V1 n (a.map fun r=>r.map fun z=>Value.int k z) cs (by rw[lQ,x];omega) fun i r hi=>by
  rw[dY,bU]at hi;obtain⟨e,f,rfl⟩:=hi;have J:i<a.length:=(dX.1 f).1;have o:=C i (by omega);rw[j]at o;have d:c[i]?.map (·.1)=some (.agg (e.map fun z=>.lit (.int k z))):=by
   rw[←dY,←D,dY,f];rfl
  have q:i<c.length:=by omega
  rw[bW q,ia]at d;have d:=dV d;have E:DataW.trod (fun _=>()) P Q 0 (fun _=>true) false A b ((cs.drop (i*n)).take n)=some (.agg (e.map fun z=>.lit (.int k z)),(c[i]).2):=by
   rw[←d,o,bW q]
  exact V0 u v w j (y e (rH f)) E
 rw[R,List.map_flatten]
def HR(Q:World)(g:Nat)(k:IntKind)(l:List Int):Prop:=g<Q.heap.size∧∀(i:Nat) z,l[i]? =some z→Q.cell? (at' g i)=some (.int k z)
def V2{name:String}{cs:Array Value}(b:Tryz.prog.globalNamed name=some g)(a:Q.var? Tryz.prog name=some cs)(d:cs.toList=l.map fun z=>.int k z):HR Q g k l:=by
 have e:=World.var?_cell b a;have h:∀i:Nat,cs[i]? =(l.map fun z=>Value.int k z)[i]? :=fun i=>by rw[←d,H8]
 refine⟨?_,fun i z j=>?_⟩
 ·simp only[World.var?,b,Option.bind_some]at a;split at a
  ·rename_i c t f m;exact(dW.1 m).1
  ·cases a
 ·show Q.cell? ⟨g,i,none⟩=_;rw[e i,h i,dY,j];rfl
abbrev y5:List (String×DataW Unit):=Rows.fnArgon2DeriveRow.laid
def anm(h:laidMetH Tryz.prog y5 Q):HR Q 0 .u8 HP.flatten∧HR Q 4 .u64 HQ:=by
 have c:laidMet Tryz.prog [("pub-wardkeep/pub/crypto/blake2b.errKeySize",Rows.laid_pub_wardkeep_pub_crypto_blake2b_errKeySize),("pub-wardkeep/pub/crypto/blake2b.errHashSize",Rows.laid_pub_wardkeep_pub_crypto_blake2b_errHashSize),("pub-wardkeep/pub/crypto/blake2b.iv",Rows.laid_pub_wardkeep_pub_crypto_blake2b_iv),("pub-wardkeep/pub/crypto/blake2b.precomputed",Rows.laid_pub_wardkeep_pub_crypto_blake2b_precomputed)] Q:=h;obtain⟨m,h,_⟩:=c;obtain⟨o,q,r,s,u,v,w,cm,x,d2,h,_⟩:=h;obtain⟨y,z,A,B,C,D,E,F,H,I,h,_⟩:=h;obtain⟨bf,J,K,f4,L,M,d,e,gI,a,h,_⟩:=h;obtain⟨N,O,T,U,V,W,f,i,j,b,h,_⟩:=h;obtain rfl:=dV (VX.symm.trans f);obtain rfl:=dV (VY.symm.trans d);obtain rfl:=dV (anf.symm.trans i);obtain rfl:=dV (ang.symm.trans e);rw[anc]at b;rw[ane]at a;exact⟨V2 VX j (anl Tryz.underlying82 Tryz.underlying81 Tryz.underlying5 VZ anh ani (by kernel_rfl) (by decide) b),V2 VY gI (V0 Tryz.underlying142 Tryz.underlying51 anj ank (by kernel_rfl) a)⟩
def V3 [aR](h:HR Q g k l):g7 (2*g)<Q.heap.size∧∀(i:Nat) a,(l.map fun z=>af.num (.int k (.c z)))[i]? =some a→∃v,Q.cell? (gK (2*g) i)=some v∧aC (fun _=>none) a v:=by
 obtain⟨h1,h2⟩:=h;refine⟨by rw[Yp];exact h1,fun i a b=>?_⟩;rw[dY,bU]at b;obtain⟨z,d,rfl⟩:=b;exact⟨.int k z,by rw[I3];exact h2 i z d,.num (.int k (.c z))⟩
def ann [aR](h:laidMetH Tryz.prog y5 Q):∀g l,bB g=some l→g7 g<Q.heap.size∧∀(i:Nat) b,l[i]? =some b→∃v,Q.cell? (gK g i)=some v∧aC (fun _=>none) b v:=by
 obtain⟨h1,h4⟩:=anm h;intro g l a;unfold bB at a;split at a
 ·injection a with a;subst a;rw[ana];exact V3 h1
 ·injection a with a;subst a;rw[anb];exact V3 h4
 ·cases a
def low:Nat:=(World.holding Tryz.prog default ⟨#[],#[],[]⟩).heap.size
abbrev ano:ByteArray:={data:=#[98,108,97,107,101,50,98,58,32,105,110,118,97,108,105,100,32,104,97,115,104,32,115,105,122,101]}
abbrev anp:ByteArray:={data:=#[98,108,97,107,101,50,98,58,32,105,110,118,97,108,105,100,32,107,101,121,32,115,105,122,101]}
def V4(os:Os):World:=
 let b:=World.holding Tryz.prog os ⟨#[.cells #[.string ano] 188,.cells #[.string anp] 188],#[],[]⟩
 {b with heap:=((((b.heap).modify 0 (fun a=>match a with|.cells _ t f=>.cells (HP.flatten.map fun z=>Value.int .u8 z).toArray t f|a=>a)).modify 2 (fun a=>match a with|.cells _ t f=>.cells #[.iface 166 (.pointer (some ⟨low,0,none⟩))] t f|a=>a)).modify 3 (fun a=>match a with|.cells _ t f=>.cells #[.iface 166 (.pointer (some ⟨low+1,0,none⟩))] t f|a=>a)).modify 4 (fun a=>match a with|.cells _ t f=>.cells (HQ.map fun z=>Value.int .u64 z).toArray t f|a=>a)}
def anq(os:Os)(args:Array Value):laidMetH Tryz.prog y5 ((V4 os).forCall (fun _ _=>0) ⟨#[],args,[]⟩).memory:=
 laidMetH_of_parts (laidMet_of_run' 8 (by kernel_rfl) (by kernel_rfl)) (by kernel_rfl)
end
section
open Go Go.aA
variable [aR][aF][bq]
abbrev Ef:=U 8→U 8→U 8→U 8→Nat→Nat→Nat→Nat→Nat→Nat→Nat→Nat→Int→Int→Int→Int→Nat→U 8
def V5(R:rF):bT NP:={qs with out:=fun⟨a,b,c,Q,bA,na,bz,nb,bH,bD,bO,ne,t,m,p,k,P⟩=>[⟨.ag a,.ro⟩,⟨.ag b,.ro⟩,⟨.ag c,.ro⟩,⟨.ag Q,.ro⟩,⟨.gen [],.bn⟩,⟨.gen [],.bn⟩,⟨.ag (R a b c Q bA na bz nb bH bD bO ne (BitVec.ofInt 32 t) (BitVec.ofInt 32 m) (BitVec.ofInt 8 p) (BitVec.ofInt 32 k) P),.own⟩]}
def anr:V5 en=qs:=rfl
def N6(S:Ef):bT Ht:={oZ with out:=fun⟨a,b,c,Q,bA,na,bz,nb,bH,bD,bO,ne,P,ps,ke,la,len⟩=>[⟨.ag a,.ro⟩,⟨.ag b,.ro⟩,⟨.ag c,.ro⟩,⟨.ag Q,.ro⟩,⟨.ag (S a b c Q bA na bz nb bH bD bO ne P ps ke len la.toNat),.own⟩]}
def ans:N6 (fun a b c Q d e f g h i j l P n ke len p=>oo a b c Q d e f g h i j l P n ke len p)=oZ:=rfl
def Eg(R:rF)(S:Ef):FuncId→Option aA.Spec|8=>some pS.spec|9=>some (V5 R).spec|10=>some (N6 S).spec|12=>some HM|_=>none
abbrev jw(a b c Q:U 8)(t m p k P:Int):List Bool:=[(decide (p<1)==false),(decide (t<1)==false),(decide (t<1)==false),(decide (t<1)==false),(decide (t<1)==false),((!decide (k≤1024))==false),((!decide (k≤1024))==false),((!decide (k≤1024))==false),((!decide (k≤1024))==false),(decide ((1:Int)≤k)==true),(decide ((1:Int)≤k)==true),(decide ((1:Int)≤k)==true),(decide (p≤8)==true),(decide (p≤8)==true),(decide (p≤8)==true),(decide ((0:Int)≤p)==true),(decide ((0:Int)≤p)==true),(decide ((0:Int)≤p)==true),(decide (m≤256)==true),(decide (m≤256)==true),(decide (m≤256)==true),(decide ((0:Int)≤m)==true),(decide ((0:Int)≤m)==true),(decide ((0:Int)≤m)==true),(decide (t≤4)==true),(decide (t≤4)==true),(decide (t≤4)==true),(decide ((0:Int)≤t)==true),(decide ((0:Int)≤t)==true),(decide ((0:Int)≤t)==true),(decide ((2:Int)<P)==false),(decide ((2:Int)<P)==false),(decide ((65536:Int)<(Q.n:Int))==false),(decide ((65536:Int)<(c.n:Int))==false),(decide ((65536:Int)<(b.n:Int))==false),(decide ((65536:Int)<(a.n:Int))==false),(decide ((2:Int)<P)==false),(decide ((2:Int)<P)==false),(decide (P<0)==false),(decide (P<0)==false),(decide (P<0)==false),(decide ((2147483647:Int)<(Q.n:Int))==false),(decide ((2147483647:Int)<(c.n:Int))==false),(decide ((2147483647:Int)<(b.n:Int))==false),(decide ((2147483647:Int)<(a.n:Int))==false)]
abbrev jL(R:rF)(S:Ef)(a b c Q:U 8)(t m p k P:Int)(d:List Bool):=verdict (bY (Eg R S) aQ 3 [.num (.int .i64 (.s P)),.agg [.ref (.sl 0 (.c 0) (.s a.n) none),.ref (.sl 1 (.c 0) (.s b.n) none),.ref (.sl 2 (.c 0) (.s c.n) none),.ref (.sl 3 (.c 0) (.s Q.n) none)],.agg [.num (.int .i64 (.s t)),.num (.int .i64 (.s m)),.num (.int .i64 (.s p)),.num (.int .i64 (.s k))]] ⟨[⟨.ag a,.ro⟩,⟨.ag b,.ro⟩,⟨.ag c,.ro⟩,⟨.ag Q,.ro⟩],bJ,d,[]⟩)
abbrev eB(n:Nat)(b:Bool):List Bool:=List.replicate n b
section
variable(R:rF)(S:Ef)(a b c Q:U 8)(t m p k P:Int)
def ant:jL R S a b c Q t m p k P [true]=some (true,[(decide ((2147483647:Int)<(a.n:Int))==true)]++(jw a b c Q t m p k P).drop 45):=by kernel_rfl
def anu:jL R S a b c Q t m p k P [false,true]=some (true,[(decide ((2147483647:Int)<(b.n:Int))==true)]++(jw a b c Q t m p k P).drop 44):=by kernel_rfl
def anv:jL R S a b c Q t m p k P [false,false,true]=some (true,[(decide ((2147483647:Int)<(c.n:Int))==true)]++(jw a b c Q t m p k P).drop 43):=by kernel_rfl
def anw:jL R S a b c Q t m p k P [false,false,false,true]=some (true,[(decide ((2147483647:Int)<(Q.n:Int))==true)]++(jw a b c Q t m p k P).drop 42):=by kernel_rfl
def anx:jL R S a b c Q t m p k P (eB 4 false++eB 3 true)=some (true,[decide (True),(decide (P<0)==true),(decide (P<0)==true),(decide (P<0)==true)]++(jw a b c Q t m p k P).drop 41):=by kernel_rfl
def anz:jL R S a b c Q t m p k P (eB 7 false++eB 4 true)=some (true,[decide (True),(decide ((2:Int)<P)==true),(decide ((2:Int)<P)==true),(decide ((2:Int)<P)==true),(decide ((2:Int)<P)==true)]++(jw a b c Q t m p k P).drop 38):=by kernel_rfl
def anA:jL R S a b c Q t m p k P (eB 9 false++[true]++[false,false])=some (true,[decide (True),(decide ((2:Int)<P)==false),(decide ((2:Int)<P)==false),(decide ((65536:Int)<(a.n:Int))==true)]++(jw a b c Q t m p k P).drop 36):=by kernel_rfl
def anB:jL R S a b c Q t m p k P (eB 10 false++[true]++[false,false])=some (true,[decide (True),(decide ((2:Int)<P)==false),(decide ((2:Int)<P)==false),(decide ((65536:Int)<(b.n:Int))==true)]++(jw a b c Q t m p k P).drop 35):=by kernel_rfl
def anC:jL R S a b c Q t m p k P (eB 11 false++[true]++[false,false])=some (true,[decide (True),(decide ((2:Int)<P)==false),(decide ((2:Int)<P)==false),(decide ((65536:Int)<(c.n:Int))==true)]++(jw a b c Q t m p k P).drop 34):=by kernel_rfl
def anD:jL R S a b c Q t m p k P (eB 12 false++[true]++[false,false])=some (true,[decide (True),(decide ((2:Int)<P)==false),(decide ((2:Int)<P)==false),(decide ((65536:Int)<(Q.n:Int))==true)]++(jw a b c Q t m p k P).drop 33):=by kernel_rfl
def anE:jL R S a b c Q t m p k P (eB 18 false)=some (true,[decide (True),(decide ((0:Int)≤t)==false),(decide ((0:Int)≤t)==false),(decide ((0:Int)≤t)==false)]++(jw a b c Q t m p k P).drop 30):=by kernel_rfl
def anF:jL R S a b c Q t m p k P (eB 15 false++eB 3 true++eB 3 false)=some (true,[decide (True),(decide (t≤4)==false),(decide (t≤4)==false),(decide (t≤4)==false)]++(jw a b c Q t m p k P).drop 27):=by kernel_rfl
def anG:jL R S a b c Q t m p k P (eB 15 false++eB 6 true++eB 3 false)=some (true,[decide (True),(decide ((0:Int)≤m)==false),(decide ((0:Int)≤m)==false),(decide ((0:Int)≤m)==false)]++(jw a b c Q t m p k P).drop 24):=by kernel_rfl
def anH:jL R S a b c Q t m p k P (eB 15 false++eB 9 true++eB 3 false)=some (true,[decide (True),(decide (m≤256)==false),(decide (m≤256)==false),(decide (m≤256)==false)]++(jw a b c Q t m p k P).drop 21):=by kernel_rfl
def anI:jL R S a b c Q t m p k P (eB 15 false++eB 12 true++eB 3 false)=some (true,[decide (True),(decide ((0:Int)≤p)==false),(decide ((0:Int)≤p)==false),(decide ((0:Int)≤p)==false)]++(jw a b c Q t m p k P).drop 18):=by kernel_rfl
def anJ:jL R S a b c Q t m p k P (eB 15 false++eB 15 true++eB 3 false)=some (true,[decide (True),(decide (p≤8)==false),(decide (p≤8)==false),(decide (p≤8)==false)]++(jw a b c Q t m p k P).drop 15):=by kernel_rfl
def anK:jL R S a b c Q t m p k P (eB 15 false++eB 18 true++eB 3 false)=some (true,[decide (True),(decide ((1:Int)≤k)==false),(decide ((1:Int)≤k)==false),(decide ((1:Int)≤k)==false)]++(jw a b c Q t m p k P).drop 12):=by kernel_rfl
def anL:jL R S a b c Q t m p k P (eB 15 false++eB 25 true)=some (true,[decide (True),((!decide (k≤1024))==true),((!decide (k≤1024))==true),((!decide (k≤1024))==true),((!decide (k≤1024))==true)]++(jw a b c Q t m p k P).drop 9):=by kernel_rfl
def anM:jL R S a b c Q t m p k P (eB 15 false++eB 21 true++eB 4 false++eB 4 true)=some (true,[decide (True),(decide (t<1)==true),(decide (t<1)==true),(decide (t<1)==true),(decide (t<1)==true)]++(jw a b c Q t m p k P).drop 5):=by kernel_rfl
def anN:jL R S a b c Q t m p k P (eB 15 false++eB 21 true++eB 8 false++[true])=some (true,[decide (True),(decide (p<1)==true)]++(jw a b c Q t m p k P).drop 1):=by kernel_rfl
def anO:jL R S a b c Q t m p k P (eB 15 false++eB 21 true++eB 9 false)=some (true,[decide (True),(NV (R a b c Q 0 a.n 0 b.n 0 c.n 0 Q.n (BitVec.ofInt 32 t) (BitVec.ofInt 32 m) (BitVec.ofInt 8 p) (BitVec.ofInt 32 k) P) (S a b c Q 0 a.n 0 b.n 0 c.n 0 Q.n P t m k p.toNat) 0 0 ((BitVec.ofInt 32 k)).toNat ((k):Int).toNat),decide (((0+a.n)≤a.n∧(a.n≤1000000∧((0+b.n)≤b.n∧(b.n≤1000000∧((0+c.n)≤c.n∧(c.n≤1000000∧((0+Q.n)≤Q.n∧(Q.n≤1000000∧((0:Int)≤P∧(P≤2∧((1:Int)≤t∧(t≤4∧((0:Int)≤m∧(m≤256∧((1:Int)≤p∧(p≤8∧((1:Int)≤k∧k≤1024)))))))))))))))))),decide (((0+a.n)≤a.n∧(a.n≤1000000∧((0+b.n)≤b.n∧(b.n≤1000000∧((0+c.n)≤c.n∧(c.n≤1000000∧((0+Q.n)≤Q.n∧(Q.n≤1000000∧((1:Int)≤t∧(t≤4∧((0:Int)≤m∧(m≤256∧((1:Int)≤p∧(p≤8∧((1:Int)≤k∧k≤1024))))))))))))))))]++jw a b c Q t m p k P):=by kernel_rfl
end
def gY:Ef:=fun a b c d e f g h i j k l m n ke len p=>oo a b c d e f g h i j k l m n ke len p
def anP(b:dy Tryz.prog bB 33 lM.spec)(c:aF.plain 9)(d:dy Tryz.prog bB 8 pS.spec):∀f a,Eg en gY f=some a→dy Tryz.prog bB f a:=by
 intro f a h;unfold Eg at h;split at h
 ·injection h with h;subst h;exact d
 ·injection h with h;subst h;rw[anr];exact amC b c
 ·injection h with h;subst h;have e:N6 gY=oZ:=ans;rw[e];exact akT
 ·injection h with h;subst h;exact amK
 ·cases h
def anQ(X:U 64)(M:Nat)(mem p kl:BitVec 32):(jK X M mem p kl).n=kl.toNat:=by
 have a:jK X M mem p kl=ga (U.zero 8 (gS (dA X M mem p kl)).kl.toNat) (gS (dA X M mem p kl)).b 0 (gS (dA X M mem p kl)).kl.toNat (gS (dA X M mem p kl)).kl.toNat 0 1024:=rfl;rw[a,VL,VO];rfl
def anR(a b c d:U 8)(e f g h i j l o:Nat)(t m:BitVec 32)(p:BitVec 8)(k:BitVec 32)(q:Int):(en a b c d e f g h i j l o t m p k q).n=k.toNat:=by
 unfold en wX;exact anQ ..
def anS(a b c d:U 8)(e f g h i j k l:Nat)(m o ke len:Int)(p:Nat)(h1:1≤len)(h2:len≤1024):(oo a b c d e f g h i j k l m o ke len p).n=len.toNat:=by
 unfold oo;exact Uk _ _ _ len (by omega) (by omega)
def anT(a b c e:U 8)(t m p k d:Int):∃g cs,verdict (bY (Eg en gY) aQ 3 [.num (.int .i64 (.s d)),.agg [.ref (.sl 0 (.c 0) (.s a.n) none),.ref (.sl 1 (.c 0) (.s b.n) none),.ref (.sl 2 (.c 0) (.s c.n) none),.ref (.sl 3 (.c 0) (.s e.n) none)],.agg [.num (.int .i64 (.s t)),.num (.int .i64 (.s m)),.num (.int .i64 (.s p)),.num (.int .i64 (.s k))]] ⟨[⟨.ag a,.ro⟩,⟨.ag b,.ro⟩,⟨.ag c,.ro⟩,⟨.ag e,.ro⟩],bJ,g,[]⟩)=some (true,cs)∧∀h∈cs,h=true:=by
 by_cases o:2147483647<(a.n:Int);refine⟨_,_,ant en gY a b c e t m p k d,?_⟩;rotate_left;by_cases q:2147483647<(b.n:Int);refine⟨_,_,anu en gY a b c e t m p k d,?_⟩;rotate_left;by_cases r:2147483647<(c.n:Int);refine⟨_,_,anv en gY a b c e t m p k d,?_⟩;rotate_left;by_cases u:2147483647<(e.n:Int);refine⟨_,_,anw en gY a b c e t m p k d,?_⟩;rotate_left;by_cases v:d<0;refine⟨_,_,anx en gY a b c e t m p k d,?_⟩;rotate_left;by_cases w:2<d;refine⟨_,_,anz en gY a b c e t m p k d,?_⟩;rotate_left;by_cases x:65536<(a.n:Int);refine⟨_,_,anA en gY a b c e t m p k d,?_⟩;rotate_left;by_cases y:65536<(b.n:Int);refine⟨_,_,anB en gY a b c e t m p k d,?_⟩;rotate_left;by_cases z:65536<(c.n:Int);refine⟨_,_,anC en gY a b c e t m p k d,?_⟩;rotate_left;by_cases A:65536<(e.n:Int);refine⟨_,_,anD en gY a b c e t m p k d,?_⟩;rotate_left;by_cases B:t<0;refine⟨_,_,anE en gY a b c e t m p k d,?_⟩;rotate_left;by_cases C:4<t;refine⟨_,_,anF en gY a b c e t m p k d,?_⟩;rotate_left;by_cases D:m<0;refine⟨_,_,anG en gY a b c e t m p k d,?_⟩;rotate_left;by_cases E:256<m;refine⟨_,_,anH en gY a b c e t m p k d,?_⟩;rotate_left;by_cases F:p<0;refine⟨_,_,anI en gY a b c e t m p k d,?_⟩;rotate_left;by_cases H:8<p;refine⟨_,_,anJ en gY a b c e t m p k d,?_⟩;rotate_left;by_cases I:k<1;refine⟨_,_,anK en gY a b c e t m p k d,?_⟩;rotate_left;by_cases J:1024<k;refine⟨_,_,anL en gY a b c e t m p k d,?_⟩;rotate_left;by_cases K:t<1;refine⟨_,_,anM en gY a b c e t m p k d,?_⟩;rotate_left;by_cases L:p<1;refine⟨_,_,anN en gY a b c e t m p k d,?_⟩;rotate_left;obtain⟨T,rfl⟩:∃T:Nat,t=(T:Int):=⟨t.toNat,by omega⟩;obtain⟨P,rfl⟩:∃P:Nat,p=(P:Int):=⟨p.toNat,by omega⟩;obtain⟨f,rfl⟩:∃f:Nat,k=(f:Int):=⟨k.toNat,by omega⟩;have cQ:=al5 (a:=a) (b:=b) (c:=c) (e:=e) (bA:=0) (na:=a.n) (bz:=0) (nb:=b.n) (bH:=0) (bD:=c.n) (bO:=0) (ne:=e.n) d (T:=T) (P:=P) (fO:=f) (ke:=m) (p:=BitVec.ofInt 8 (P:Int)) (by omega) (by omega) (by omega) (by omega) (by omega) (by omega) (by omega) (by omega) (by omega) ⟨by omega,by omega⟩ (by omega) (by omega) (by omega) (by omega) (by rw[rJ];omega) rfl rfl;have i:(BitVec.ofInt 32 (f:Int)).toNat=f:=by rw[rJ];omega
 have l:NV (en a b c e 0 a.n 0 b.n 0 c.n 0 e.n (BitVec.ofInt 32 (T:Int)) (BitVec.ofInt 32 m) (BitVec.ofInt 8 (P:Int)) (BitVec.ofInt 32 (f:Int)) d) (gY a b c e 0 a.n 0 b.n 0 c.n 0 e.n d T m f ((P:Int)).toNat) 0 0 (BitVec.ofInt 32 (f:Int)).toNat ((f:Int)).toNat=true:=by
  refine bl ⟨by rw[i];omega,by rw[anR];omega,?_,by omega,fun j M=>?_⟩
  ·show 0+_≤(oo a b c e 0 a.n 0 b.n 0 c.n 0 e.n d T m f ((P:Int)).toNat).n;rw[anS _ _ _ _ _ _ _ _ _ _ _ _ _ _ _ _ _ (by omega) (by omega)];omega
  ·rw[cM];have:=cQ j (by omega);rw[eC];exact this
 refine⟨_,_,anO en gY a b c e T m P f d,?_⟩
 all_goals simp only[jw,List.drop_succ_cons,H7,jP,ng]
 all_goals repeat'(refine ax ?_ ?_)
 all_goals first|exact aV|exact l|(simp only[cz]<;>omega)
end
end Go.Proofs.YtcminalaicidiaaGreatDoor
end

/- A part of the proof of FnArgon2Derive. No condition. -/
import Derived.Test.YtcminalaicidiaaGreatDoorZB
import Derived.OpenShut
import Derived.WideKeyArgs
import Derived.ChangeSlices
import Derived.RowKit3
import Derived.Laws.Externs
set_option maxRecDepth 100000
set_option maxHeartbeats 8000000
set_option linter.all false
def aom:=@Array.getElem?_replicate
def On:=@Classical.choose_spec
def Ib:=@Classical.not_not
def Bu:=@List.length_range
def fR:=@List.mem_append
def WB:=@List.mem_append_left
def aon:=@List.mem_append_right
def zc:=@List.mem_map
def oy:=@List.mem_range
def tc:=@List.mem_singleton
def WC:=@List.nodup_cons
def Ol:=@Nat.le_of_lt
def Om:=@Nat.lt_succ_self
def zb:=@beq_false
def Bv:=@beq_true
noncomputable section
namespace Go.aA
section
variable [aR][aF]
open Region
variable{o:Oper}{b i:Nat}{ev:Operand→af}{Q:Op}{S W:ai}{q:Nat}{D:Nat→Prop}{k:Nat}{R:af}{n t c:Nat}{d Y:Data}{p:Nat}{P:Program}{V X:ai}{v:af}
def Ah(t:Nat):∀l:List Nat,oG t l=true↔t∈l
 |[]=>by simp[oG]|R::r=>by
  simp only[oG];cases h:Nat.beq R t with
  |true=>have:R=t:=by simpa using h
         simp[this]
  |false=>
   have:R≠t:=by intro a;subst a;simp at h
   simp only[jN,Ah t r];constructor
   ·exact .inr
   ·rintro(a|h)
    ·exact absurd a.symm this
    ·exact h
def Qv{C:eK}{call:gf}(e:mI C.P ev Q=some b)(h:ee C call ev Q S=some (R,W)):
 ∃k,aU b S.H=some k∧k.mode≠.bn:=by
 have u:∀d,S.read b=some d→∃k,aU b S.H=some k∧k.mode≠.bn:=by
  intro d r;unfold ai.read at r;split at r
  ·rename_i Y m w;refine⟨_,w,?_⟩;intro g;simp only at g;subst g;cases r
  ·cases r
 have A:∀v,rT v=some b→∃o,v=.ref (.ptr b o):=by
  intro v f;unfold rT at f;split at f
  ·injection f with f;subst f;exact⟨_,rfl⟩
  ·cases f
 cases Q<;>simp only[mI,reduceCtorEq]at e
 case convert E d R=>
  split at e
  case h_2=>cases e
  rename_i w;obtain⟨o,l,c,f⟩:∃o l c,ev R=.ref (.sl b o l c):=by
   unfold EF at e;split at e
   ·injection e with e;subst e;exact⟨_,_,_,by assumption⟩
   ·cases e
  simp only[ee,nq,zB,f]at h;split at h
  ·cases h
  split at h
  ·simp[xh]at h
  ·unfold zA at h;rw[w]at h;simp only at h;split at h
   ·cases l with
    |s z=>cases h
    |c n=>
     cases n with
     |zero=>cases h
     |succ n=>
      simp only at h;split at h
      ·cases h
      ·rename_i j;exact⟨_,j,by intro g;cases g⟩
      ·cases h
   ·cases h
  ·cases h
 case load t a=>
  obtain⟨o,x⟩:=A _ e;simp only[ee,nq,x,oF]at h;split at h
  ·cases h
  ·split at h
   ·split at h
    ·rename_i l j;simp only[rR]at j;split at j
     ·exact u _ (by assumption)
     ·cases j
    ·cases h
   ·cases h
  ·simp only[uQ]at h;split at h
   ·exact u _ (by assumption)
   ·cases h
 case slice t a lo hi F=>
  split at e
  case h_2=>cases e
  rename_i y;obtain⟨o,x⟩:=A _ e;simp only[ee,nq,x,xj]at h;unfold B1 at y;split at y
  case h_2=>cases y
  rename_i n g B;simp only[B]at h;split at h
  ·cases h
  ·unfold zp at h
   repeat'(split at h)
   all_goals first
    |(cases h;done)
    |exact u _ (by assumption)
  ·cases h
def Qw{C:eK}{call:gf}(e:B2 ev Q=some c)(h:ee C call ev Q S=some (R,W)):∀b,b≠c→aU b W.H=aU b S.H:=by
 intro b l;cases Q<;>simp only[B2,reduceCtorEq]at e;rename_i t a v;have f:∃o,ev a=.ref (.ptr c o):=by
  unfold rT at e;split at e
  ·rename_i o m;injection e with e;subst e;exact⟨_,m⟩
  ·cases e
 obtain⟨o,f⟩:=f;dsimp only[ee,nq]at h;unfold EE at h;split at h
 case h_2=>cases h
 rename_i V h1;simp only[aB,aN]at h;obtain⟨_,rfl⟩:=h;rw[f]at h1;have j:∀{T g:ai} {d:Data},Pure S T→T.write c d=some g→aU b g.H=aU b S.H:=by
  intro T g d r s;obtain⟨u,_,h2,_⟩:=ai.z6 s;rw[h2,cg,cg,mw (fB l),r.H]
 simp only[zm]at h1
 repeat'(split at h1)
 all_goals first
  |(cases h1;done)
  |exact j (Data.pX ‹Data.over _ _ _ _=some _›).1 h1|exact j (Data.Jl ‹Data.set _ _ _ _=some _›).1 h1
def Qx:∀(l pre r:List af),mE l=(pre,r)→l=pre++r
 |[],pre,r,h=>by simp only[mE,aN]at h;obtain⟨rfl,rfl⟩:=h;rfl
 |R::l,pre,r,h=>by
  simp only[mE]at h;split at h
  ·simp only[aN]at h;obtain⟨rfl,rfl⟩:=h;rfl
  ·generalize e:mE l=q at h;obtain⟨a,c⟩:=q;simp only[aN]at h;obtain⟨rfl,rfl⟩:=h;rw[Qx l a c e];rfl
def Qy:∀(l:List af) (ws:List (BitVec 8)) (r:List af),oE l=(ws,r)→∃u,l=u++r∧u.length=ws.length
 |[],ws,r,h=>by simp only[oE,aN]at h;obtain⟨rfl,rfl⟩:=h;exact⟨[],rfl,rfl⟩
 |R::l,ws,r,h=>by
  simp only[oE]at h;split at h
  ·generalize e:oE l=q at h;obtain⟨a,c⟩:=q;simp only[aN]at h;obtain⟨rfl,rfl⟩:=h;obtain⟨u,f,g⟩:=Qy l a c e;exact⟨R::u,by rw[f];rfl,by simp[g]⟩
  ·simp only[aN]at h;obtain⟨rfl,rfl⟩:=h;exact⟨[],rfl,rfl⟩
def Qz{o:N}(h:d.kN o (.s n) S=some (Y,W)):∀l,Y≠.gen l:=by
 intro l a;subst a;cases d<;>simp only[Data.kN]at h<;>(try cases o)<;>simp at h
def aad{o:N}(h:d.sub o (.s n) S=some (Y,W)):∀l,Y≠.gen l:=by
 unfold Data.sub at h;split at h
 ·rename_i a;cases h;exact Qz a
 ·split at h
  ·exact Qz h
  ·unfold Data.qA at h;split at h
   ·simp only[aB,aN]at h;obtain⟨rfl,_⟩:=h;intro l e;cases e
   ·cases h
def QA{e:Type}:∀(o:Nat) (l a:List e),nj [] o l=some a→a=l
 |0,l,a,h=>by
  simp only[nj]at h;have f:Nat.ble ([]:List e).length l.length=true:=Oh (kI _);rw[f]at h;simp only[aB,kK,H7,jP]at h;exact h.symm
 |o+1,[],a,h=>by simp[nj]at h|o+1,R::r,a,h=>by
  simp only[nj]at h;split at h
  ·rename_i g j;cases h;rw[QA o r g j]
  ·cases h
def aae(a:rU ev Q S=some (c,p,q)):
 ∃Ai d e f g h l m pre r ws post,Q=.call Ai∧Ai.callee=.builtin .copy∧Ai.args.toList=[d,e]∧ev d=.ref (.sl c f g h)∧Iz (ev e)=true∧
  aU c S.H=some ⟨.gen l,m⟩∧(Data.gen l).words=none∧mE l=(pre,r)∧oE r=(ws,post)∧p=pre.length∧q=pre.length+ws.length:=by
 unfold rU at a;split at a
 case h_2=>cases a
 rename_i Ai;split at a
 case h_2=>cases a
 rename_i F j;split at a
 case h_2=>cases a
 split at a
 case h_2=>cases a
 rename_i d e s;split at a
 case h_2=>cases a
 rename_i b f g h u;split at a
 case h_2=>cases a
 rename_i w;split at a
 case h_2=>cases a
 rename_i l m x;split at a
 ·cases a
 rename_i y;generalize z:mE l=A at a;obtain⟨pre,r⟩:=A;simp only at a;generalize B:oE r=E at a;obtain⟨ws,post⟩:=E;simp only[aB,aN]at a;obtain⟨rfl,rfl,rfl⟩:=a;exact⟨Ai,d,e,f,g,h,l,m,pre,r,ws,post,rfl,j,s,u,w,x,y,z,B,rfl,rfl⟩
def QB{C:eK}{call:gf}(ag:rU ev Q S=some (b,p,q))(h:ee C call ev Q S=some (R,W)):
 (∀c,c≠b→aU c W.H=aU c S.H)∧∀o,¬(p≤o∧o<q)→cellOf o (aU b W.H)=cellOf o (aU b S.H):=by
 obtain⟨Ai,d,ah,x,y,ak,l,m,pre,r,ws,post,rfl,al,am,an,z,K,ao,L,M,rfl,rfl⟩:=aae ag;obtain⟨u,O,aa⟩:=Qy _ _ _ M;have ab:=Qx _ _ _ L;have ap:(Data.gen l).mid=some ⟨pre,U.of ws,post⟩:=by
  simp only[Data.mid,L,M]
 simp only[ee,nq,uV,al,B0,xo,BT,am,lS,an,zv]at h;split at h
 case h_2=>cases h
 split at h
 case h_2=>cases h
 have aq:jx (.ref (.sl b x y ak))=some y:=rfl;simp only[aq]at h;split at h
 ·cases h
 rename_i bF E;split at h
 ·cases h
 rename_i ad V e;have ar:∀g,ad=.gen g→g=[]:=by
  intro g j;generalize ev ah=aP at z E e;unfold Iz at z;split at z
  ·rename_i cm aQ au aS;simp only[jx,aB]at E;subst E;simp only[lm]at e;split at e
   ·have av:∃k,(N.s au).min y=.s k:=by cases y<;>exact⟨_,rfl⟩
    obtain⟨k,aw⟩:=av;rw[aw]at e;exact absurd j (aad e g)
   ·cases e
  ·simp only[lm,aB,aN]at e;obtain⟨F,_⟩:=e;rw[←F]at j;injection j with j;exact j.symm
  ·cases z
 have A:=Af e;split at h
 ·cases h
 split at h
 ·cases h
 rename_i ax f;have ay:ax=.gen l:=by
  unfold ai.read at f;rw[A.H,K]at f;simp only at f;split at f
  ·cases f
  ·injection f with f;exact f.symm
 subst ay;split at h
 case h_2=>cases h
 rename_i Y X a;split at h
 case h_2=>cases h
 rename_i az aA;simp only[aB,aN]at h;obtain⟨_,rfl⟩:=h;have I:=(Data.pX a).1;obtain⟨aT,w1,ae,_⟩:=ai.z6 aA;refine⟨fun b aC=>by rw[ae,cg,cg,mw (fB aC),I.H,A.H],fun o aV=>?_⟩;have aD:∃w:List af,w.length=ws.length∧Y=.gen (pre++(w++post)):=by
  unfold Data.over at a;split at a
  ·rename_i r B;injection a with a;subst a;cases x with
   |c x=>
    cases ad with
    |gen g=>
     have j:=ar g rfl;subst j;simp only[Data.jy,bU,aN]at B;obtain⟨aW,aE,rfl,_⟩:=B;have F:=QA _ _ _ aE;subst F;exact⟨u,aa,by rw[ab,O]⟩
    |_=>simp[Data.jy,Data.j7]at B
   |s x=>simp[Data.jy]at B
  ·rw[ao]at a;simp only[Data.BK,ap]at a;split at a
   ·simp only[aB,aN,uP.put]at a;obtain⟨rfl,_⟩:=a;refine⟨_,?_,rfl⟩
    show((List.range (U.of ws).n).map _).length=ws.length;rw[lQ,Bu];rfl
   ·cases a
 obtain⟨w,aG,rfl⟩:=aD;have J:aU b S.H=some ⟨.gen l,m⟩:=K;have aJ:b<X.H.length:=by rw[I.H,A.H];exact sj J
 have aK:(X.H.set b ⟨.gen (pre++(w++post)),.own⟩)[b]? =some ⟨.gen (pre++(w++post)),.own⟩:=pL aJ;have aL:m=.own:=by
  rw[I.H,A.H,←cg,J]at w1;injection w1 with w1;injection w1
 subst aL;have aM:aU b az.H=some ⟨.gen (pre++(w++post)),.own⟩:=by rw[ae,cg];exact aK
 have aO:aU o (pre++(w++post))=aU o l:=by
  rw[cg,cg,ab,O];rcases cv o pre.length with h1|h1
  ·rw[iE h1,iE h1]
  ·rw[ie h1,ie h1];have h2:ws.length≤o-pre.length:=by omega
   rw[ie (by omega),ie (by omega),aG,aa]
 rw[aM,J];simp only[cellOf,aO]
def aaf(h:mI P ev Q=some b):CK P Q=true:=by
 cases Q<;>simp only[mI,reduceCtorEq]at h
 case load=>rfl
 case slice=>
  split at h
  ·assumption
  ·cases h
 case convert=>
  split at h
  ·assumption
  ·cases h
def aag(h:mI P ev Q=some b):isRead Q=true:=by
 cases Q<;>simp only[mI,reduceCtorEq]at h
 case load=>rfl
 case slice=>rfl
 case convert=>
  split at h
  ·assumption
  ·cases h
def aah(h:isRead Q=true):kP Q=false∧gh Q=false:=by cases Q<;>simp_all[isRead,kP,gh]
def aai{ops:Array Oper}{a:Operand→af}(h:∀t∈Oper.looksAt ops o,ev (.tmp t)=a (.tmp t))(S:ai):mH ops.toList ev o.guard S=mH ops.toList a o.guard S:=by
 unfold mH;cases f:o.guard with
 |none=>rfl|some g=>
  obtain⟨j,r⟩:=g;simp only[cg];cases l:ops.toList[j]? with
  |none=>rfl|some e=>
   simp only;cases m:e.dst with
   |none=>rfl|some d=>
    simp only;rw[h d (by
     have:ops[j]? =some e:=by simpa using l
     simp[Oper.looksAt,f,this,m])]
def JL{β:aE}{a:Act}(y:∀R,aC β (ev R) (a.eval R)){ops:Array Oper}{b:Bool}(h:mH ops.toList ev o.guard S=some (b,W)):
 W.ok→Region.wanted o (yielded ops a.tmps)=b:=by
 unfold mH at h;split at h
 ·rename_i l;simp only[aB,aN]at h;obtain⟨rfl,rfl⟩:=h;exact fun _=>by simp[Region.wanted,l]
 ·rename_i j H l;rw[cg]at h;cases m:ops.toList[j]? with
  |none=>simp[m]at h|some z=>
   simp only[m]at h;split at h
   ·cases h
   rename_i d s;split at h
   case h_3=>cases h
   case h_2=>
    rename_i u;simp only[aB,aN]at h;obtain⟨rfl,rfl⟩:=h;refine fun _=>?_;have g:=y (.tmp d);rw[u]at g;have e:=g.Qj;simp only[Act.eval]at e;have r:ops[j]? =some z:=by simpa using m
    have w:yielded ops a.tmps j=none:=by
     rcases cv d a.tmps.size with f|f
     ·have x:a.tmps[d]? =some (.tuple #[]):=by
       simp only[gV,dN f,ic]at e;rw[dN f,e]
      simp[yielded,r,s,x]
     ·simp[yielded,r,s,Er f]
    simp[Region.wanted,l,w]
   rename_i A u;split at h
   case h_2=>cases h
   rename_i t V E;simp only[aB,aN]at h;obtain⟨rfl,rfl⟩:=h;obtain⟨I,F⟩:=B.oM E;refine fun ok=>?_;have g:=y (.tmp d);rw[u]at g;have e:=g.tC;simp only[Act.eval]at e;have f:d<a.tmps.size:=by
    rcases cv d a.tmps.size with h|h
    ·exact h
    ·simp[gV,Er h,undef]at e
   have x:a.tmps[d]? =some (.bool A.v):=by
    simp only[gV,dN f,ic]at e;rw[dN f,e]
   have r:ops[j]? =some z:=by simpa using m
   have w:yielded ops a.tmps j=some A.v:=by
    simp[yielded,r,s,x]
   simp[Region.wanted,l,w,F ok]
namespace jC
variable{C:eK}{call:gf}{aj Z:Nat}{dyn:Bool}{ops:Array Oper}{base:Nat}{aH:Nat→aI×ai}{evs:Nat→Option g5}
def qK(ops:Array Oper)(t k:Nat):Prop:=∃o,ops[k]? =some o∧o.dst=some t
def Ord(ops:Array Oper)(i:Nat)(cW:Nat→Prop):Prop:=∀k,k<ops.size→cW k→k≠i→(k<i→eZ ops i k)∧(i<k→eZ ops k i)
structure nE(ops:Array Oper)(D:Nat→Prop)(i:Nat)(o:Oper):Prop where
 ko:Closed ops D
 not:¬D i
 get:ops[i]? =some o
 pre:∀e∈o.after,binds .any e=true→D e.on
def nE.later(a:nE ops D i o)(e:k<ops.size)(h:eZ ops k i):¬D k:=fun f=>
 a.not (FO a.ko k i _ (dN e) h fun g j l=>a.ko k _ (dN e) f g j l)
def nE.iff(a:nE ops D i o){cW:Nat→Prop}(h:Ord ops i cW):∀k,k<ops.size→cW k→(D k↔k<i):=by
 intro k e g;rcases w6 k i with h1|h1|h1
 ·exact⟨fun _=>h1,fun _=>FO a.ko i k o a.get ((h k e g (by omega)).1 h1) a.pre⟩
 ·subst h1;exact⟨fun f=>absurd f a.not,fun h=>absurd h (Nat.lt_irrefl _)⟩
 ·exact⟨fun f=>absurd f (a.later e ((h k e g (by omega)).2 h1)),fun h=>by omega⟩
def nE.closed(e:nE ops D i o):Closed ops (fun k=>D k∨k=i):=by
 intro k l a f g h j;rcases f with f|rfl
 ·exact .inl (e.ko k l a f g h j)
 ·rw[e.get]at a;injection a with a;subst a;exact .inl (e.pre g h j)
variable(T:jC C call aj Z dyn ops base aH evs)
include T
def FW{j:Nat}{a b:Oper}(g:k<j)(h:ops[k]? =some a)(l:ops[j]? =some b):
 eZ ops j k∨((∀t,a.dst=some t→t∉Oper.looksAt ops b)∧(∀t,b.dst=some t→t∉Oper.looksAt ops a)∧∀t,a.dst=some t→b.dst≠some t):=by
 refine(vB T.reg g h l).imp id fun h1=>?_;simp only[pZ,dH,ni]at h1;obtain⟨⟨⟨⟨⟨h1,h2⟩,h3⟩,_⟩,_⟩,_⟩:=h1;refine⟨fun t e f=>?_,fun t e f=>?_,fun t e m=>?_⟩
 ·rw[e]at h1;simp only[FQ]at h1;rw[(Ah _ _).2 f]at h1;cases h1
 ·rw[e]at h2;simp only[FQ]at h2;rw[(Ah _ _).2 f]at h2;cases h2
 ·rw[e,m]at h3;simp[Qn]at h3
def aaj(hi:ops[i]? =some o)(a:t∈Oper.looksAt ops o):Ord ops i (qK ops t):=by
 intro k g ⟨j,e,f⟩ l;refine⟨fun h=>?_,fun h=>?_⟩
 ·rcases T.FW h e hi with h1|⟨h1,_⟩
  ·exact h1
  ·exact absurd a (h1 t f)
 ·rcases T.FW h hi e with h1|⟨_,h1,_⟩
  ·exact h1
  ·exact absurd a (h1 t f)
def aak(hi:ops[i]? =some o)(a:o.dst=some t):Ord ops i (qK ops t):=by
 intro k g ⟨j,e,f⟩ l;refine⟨fun h=>?_,fun h=>?_⟩
 ·rcases T.FW h e hi with h1|⟨_,_,h1⟩
  ·exact h1
  ·exact absurd a (h1 t f)
 ·rcases T.FW h hi e with h1|⟨_,_,h1⟩
  ·exact h1
  ·exact absurd f (h1 t a)
def QC(f:¬qK ops t k)(g:k<ops.size):(aH (k+1)).1.get aj t=(aH k).1.get aj t:=by
 have e:=dN g;have a:∀v,((aH k).1.put aj ops[k].dst v).get aj t=(aH k).1.get aj t:=by
  intro v;cases j:ops[k].dst with
  |none=>rfl|some d=>exact aI.Qg aj _ v (fun l=>f ⟨ops[k],e,by rw[j,l]⟩)
 obtain⟨b,V,m,r,h|h|h⟩:=FU (T.step k _ e)
 ·rw[h.2.1];exact a _
 ·obtain⟨_,_,v,_,h⟩:=h;rw[h];exact a _
 ·obtain⟨_,_,v,X,_,_,h,_⟩:=h;rw[h];exact a _
def aal(hi:ops[i]? =some o)(O:Pure (aH i).2 V)(U:tr C.P ((aH i).1.ev aj) o.op V=none)(u:mI C.P ((aH i).1.ev aj) o.op=some b)
 (aP:ee C call ((aH i).1.ev aj) o.op (iI dyn V)=some (v,X)) (aa:evs i=oJ C.P dyn ((aH i).1.ev aj) o.op V X):Ord ops i (cW aH b):=by
 have ab:=(dW.1 hi).1;have y:=aaf u;obtain⟨ad,am⟩:=aah (aag u);intro k I g an;have j:=dN I;have J:dyn=true→kP ops[k].op=true→∃f,evs k=some f∧zC b f=true∧Oy f=false:=by
  intro m r;obtain⟨_,h1|⟨ae,_⟩|⟨_,_,v',w,K,z,L,h1,ag,A⟩⟩:=T.vD j
  ·exact absurd (by rw[h1]) g
  ·rw[JJ ae]at r;cases r
  ·cases x:B2 ((aH k).1.ev aj) ops[k].op with
   |some c=>
    refine⟨.one c,by rw[A];simp[oJ,m,r,x],?_,rfl⟩;have:=Qw x L;by_cases f:c=b
    ·simp[zC,f]
    ·exact absurd (by rw[h1,this b (fB f),gk,z.H]) g
   |none=>
    cases B:rU ((aH k).1.ev aj) ops[k].op w with
    |some t=>
     obtain⟨c,p,q⟩:=t;refine⟨.span c p q,by rw[A];simp[oJ,m,r,x,B],?_,rfl⟩;have ah:rU ((aH k).1.ev aj) ops[k].op (iI dyn w)=some (c,p,q):=by rw[←B];unfold rU;rw[gk]
     have:=(QB ah L).1;by_cases f:c=b
     ·simp[zC,f]
     ·exact absurd (by rw[h1,this b (fB f),gk,z.H]) g
    |none=>
    refine⟨.xp (Nat.min K.low w.H.length),by rw[A];simp[oJ,m,r,x,B],?_,rfl⟩;simp only[zC];refine Oh (Od fun M=>g ?_);have ak:b<K.low:=dL M (Br _ _);have al:b<w.H.length:=dL M (Bs _ _);have:=ag.same b (by rw[gk];exact al) ak;rw[gk,z.H]at this;rw[h1];exact this
 have N:dyn=true→evs i=some (.load b):=by
  intro m;rw[aa];simp[oJ,m,ad,u,U]
 refine⟨fun h=>?_,fun h=>?_⟩
 ·rcases vB T.reg h j hi with h1|h1
  ·exact h1
  ·simp only[pZ,dH,ni,y9,Bt,pM]at h1;obtain⟨⟨⟨_,h3⟩,h4⟩,e⟩:=h1;rcases T.tK j g with a|⟨a,_⟩
   ·rcases e with e|⟨_,e⟩
    ·obtain⟨f,E,s,F⟩:=J e a;have:=T.evs k i _ _ h ab E (N e);refine(FP ops i k).1 ?_;cases f with
     |load c=>cases F
     |cell c d=>cases F
     |xp l=>simpa[pP,s]using this|one c=>simpa[pP,s]using this|span c p q=>simpa[pP,s]using this
    ·rcases e with e|e
     ·rw[a]at e;cases e
     ·rw[y]at e;cases e
   ·rcases h4 with h4|⟨_,h4⟩
    ·rw[a]at h4;cases h4
    ·rw[y]at h4;cases h4
 ·rcases vB T.reg h hi j with h1|h1
  ·exact h1
  ·simp only[pZ,dH,ni,y9,Bt,pM]at h1;obtain⟨_,e⟩:=h1;rcases T.tK j g with a|⟨a,f⟩
   ·rcases e with e|⟨e,_⟩
    ·obtain⟨f,E,s,F⟩:=J e a;have:=T.evs i k _ _ h I (N e) E;refine(FP ops k i).1 ?_;simpa[pP,s]using this
    ·rcases e with e|e
     ·rw[y]at e;cases e
     ·rw[a]at e;cases e
   ·exfalso;subst f;obtain⟨ao,h1,h2⟩:=Qv u aP;rw[gk,O.H,T.early j a i (by omega)]at h1;injection h1 with h1;subst h1;exact h2 rfl
def qL(aH:Nat→aI×ai)(b o k:Nat):Prop:=cellOf o (aU b (aH (k+1)).2.H)≠cellOf o (aU b (aH k).2.H)
omit T in
def qL.ch{o:Nat}(h:qL aH b o k):cW aH b k:=fun a=>h (by rw[a])
def aam(hi:ops[i]? =some o)(O:Pure (aH i).2 V)(U:tr C.P ((aH i).1.ev aj) o.op V=some (b,q))
 (aP:ee C call ((aH i).1.ev aj) o.op (iI dyn V)=some (v,X)) (an:evs i=oJ C.P dyn ((aH i).1.ev aj) o.op V X):Ord ops i (qL aH b q):=by
 have ao:=(dW.1 hi).1;obtain⟨t,ad,l,m,R,w,_,ap,x,_⟩:=Jy U;have E:CK C.P o.op=true:=by rw[w];rfl
 have aq:kP o.op=false:=by rw[w];rfl
 have aA:gh o.op=false:=by rw[w];rfl
 intro k aa ab aB;have j:=ab.ch;have g:=dN aa;have ae:dyn=true→kP ops[k].op=true→∃f,evs k=some f∧zD b q f=true∧Oy f=false:=by
  intro r s;obtain⟨_,h1|⟨ar,_⟩|⟨_,_,v',y,ag,z,ah,h1,au,F⟩⟩:=T.vD g
  ·exact absurd (by rw[h1]) j
  ·rw[JJ ar]at s;cases s
  ·cases A:B2 ((aH k).1.ev aj) ops[k].op with
   |some c=>
    refine⟨.one c,by rw[F];simp[oJ,r,s,A],?_,rfl⟩;have:=Qw A ah;by_cases f:c=b
    ·simp[zD,f]
    ·exact absurd (by rw[h1,this b (fB f),gk,z.H]) j
   |none=>
    cases I:rU ((aH k).1.ev aj) ops[k].op y with
    |some t=>
     obtain⟨c,J,K⟩:=t;refine⟨.span c J K,by rw[F];simp[oJ,r,s,A,I],?_,rfl⟩;have av:rU ((aH k).1.ev aj) ops[k].op (iI dyn y)=some (c,J,K):=by rw[←I];unfold rU;rw[gk]
     have ak:=QB av ah;by_cases f:c=b
     ·subst f;by_cases L:J≤q∧q<K
      ·simp[zD,L.1,L.2]
      ·exact absurd (by rw[h1,ak.2 q L,gk,z.H]) ab
     ·exact absurd (by rw[h1,ak.1 b (fB f),gk,z.H]) j
    |none=>
    refine⟨.xp (Nat.min ag.low y.H.length),by rw[F];simp[oJ,r,s,A,I],?_,rfl⟩;simp only[zD];refine Oh (Od fun al=>j ?_);have aw:b<ag.low:=dL al (Br _ _);have ax:b<y.H.length:=dL al (Bs _ _);have:=au.same b (by rw[gk];exact ax) aw;rw[gk,z.H]at this;rw[h1];exact this
 have am:dyn=true→evs i=some (.cell b q):=by
  intro r;rw[an];simp[oJ,r,aq,U]
 refine⟨fun h=>?_,fun h=>?_⟩
 ·rcases vB T.reg h g hi with h1|h1
  ·exact h1
  ·simp only[pZ,dH,ni,y9,Bt,pM]at h1;obtain⟨⟨⟨_,h3⟩,h4⟩,e⟩:=h1;rcases T.tK g j with a|⟨a,_⟩
   ·rcases e with e|⟨_,e⟩
    ·obtain⟨f,M,u,N⟩:=ae e a;have:=T.evs k i _ _ h ao M (am e);refine(FP ops i k).1 ?_;cases f with
     |load c=>cases N
     |cell c d=>cases N
     |xp l=>simpa[pP,u]using this|one c=>simpa[pP,u]using this|span c p q=>simpa[pP,u]using this
    ·rcases e with e|e
     ·rw[a]at e;cases e
     ·rw[E]at e;cases e
   ·rcases h4 with h4|⟨_,h4⟩
    ·rw[a]at h4;cases h4
    ·rw[E]at h4;cases h4
 ·rcases vB T.reg h hi g with h1|h1
  ·exact h1
  ·simp only[pZ,dH,ni,y9,Bt,pM]at h1;obtain⟨_,e⟩:=h1;rcases T.tK g j with a|⟨a,f⟩
   ·rcases e with e|⟨e,_⟩
    ·obtain⟨f,M,u,N⟩:=ae e a;have:=T.evs i k _ _ h aa (am e) M;refine(FP ops k i).1 ?_;simpa[pP,u]using this
    ·rcases e with e|e
     ·rw[E]at e;cases e
     ·rw[a]at e;cases e
   ·exfalso;subst f;rw[O.H,T.early g a i (by omega)]at x;injection x with x;injection x with aC ay;subst ay;rw[w]at aP;obtain⟨aD,B,az⟩:=Qv (b:=bF ops base k) (by simp only[mI,ap];rfl) aP;rw[gk,O.H,T.early g a i (by omega)]at B;injection B with B;subst B;exact az rfl
def aan(L:n≤ops.size)(y:i≤n)(l:Closed ops D)(h:∀k,k<n→qL aH b q k→(D k↔k<i)):
 cellOf q (aU b (aH (last D (cW aH b) n)).2.H)=cellOf q (aU b (aH i).2.H):=by
 have r:∀k,k<n→¬qL aH b q k→cellOf q (aU b (aH (k+1)).2.H)=cellOf q (aU b (aH k).2.H):=fun k _ f=>Ib.1 f;have z:∀m,m≤n→(∀k,k<m→qL aH b q k→D k)→cellOf q (aU b (aH m).2.H)=cellOf q (aU b (aH (last D (qL aH b q) m)).2.H):=by
  intro m
  induction m with
  |zero=>intro _ _;rfl|succ m g=>
   intro s u;simp only[last];split
   ·rfl
   ·rename_i a;have A:¬qL aH b q m:=fun e=>a ⟨u m (by omega) e,e⟩;rw[r m (by omega) A,g (by omega) fun k f=>u k (by omega)]
 have B:∀m,m≤n→cellOf q (aU b (aH (last D (cW aH b) m)).2.H)=cellOf q (aU b (aH (last D (qL aH b q) m)).2.H):=by
  intro m
  induction m with
  |zero=>intro _;rfl|succ m g=>
   intro s;by_cases a:D m∧cW aH b m
   ·have j:last D (cW aH b) (m+1)=m+1:=by simp only[last];rw[av a]
    rw[j];refine z (m+1) s fun k f e=>?_;rcases cv k m with h1|h1
    ·have E:=T.JK h1 (dN (by omega)) (dN (by omega)) e.ch a.2;exact FO l m k _ (dN (by omega)) E fun F I J=>l m _ (dN (by omega)) a.1 F I J
    ·have:k=m:=by omega
     subst this;exact a.1
   ·have j:last D (cW aH b) (m+1)=last D (cW aH b) m:=by simp only[last];rw[ak a]
    have K:last D (qL aH b q) (m+1)=last D (qL aH b q) m:=by
     simp only[last];rw[ak fun w=>a ⟨w.1,w.2.ch⟩]
    rw[j,K,g (by omega)]
 rw[B n (aX _)];exact FT (x:=fun k=>cellOf q (aU b (aH k).2.H)) r y h
def aao(hi:ops[i]? =some o)(s:kP o.op=true)(j:∀k f,i<k→ops[k]? =some f→gh f.op=true→b≠bF ops base k):Ord ops i (cW aH b):=by
 intro k l g u;have e:=dN l;refine⟨fun h=>?_,fun h=>?_⟩
 ·rcases vB T.reg h e hi with h1|h1
  ·exact h1
  ·exfalso;simp only[pZ,dH,ni,y9,Bt,pM]at h1;obtain⟨⟨⟨_,h3⟩,h4⟩,m⟩:=h1;rcases T.tK e g with a|⟨a,_⟩<;>simp_all
 ·rcases vB T.reg h hi e with h1|h1
  ·exact h1
  ·exfalso;simp only[pZ,dH,ni,y9,Bt,pM]at h1;obtain⟨⟨⟨_,h3⟩,h4⟩,m⟩:=h1;rcases T.tK e g with a|⟨a,r⟩
   ·simp_all
   ·exact j k _ h e a r
end jC
end
section
variable [aR][aF][oU]
open Region
variable{i:Nat}{Q:Oper}{U:Type}{l R:List U}{b:Nat}
def aap(h:∀b:Nat,aU b l=aU b R):l=R:=uH fun b=>by rw[←cg,←cg];exact h b
def aaq(h:∀b:Nat,(aU b l).isSome=(aU b R).isSome):l.length=R.length:=by
 have e:∀(a c:List U),(∀b:Nat,(aU b a).isSome=true→(aU b c).isSome=true)→a.length≤c.length:=by
  intro a c f;rcases cv c.length a.length with h|h
  ·have:=f c.length (by rw[cg];simp[h]);rw[cg,di (aX _)]at this;cases this
  ·exact h
 exact Nat.le_antisymm (e _ _ fun b d=>by rw[←h b];exact d) (e _ _ fun b d=>by rw[h b];exact d)
def Aj(h:b<l.length):∃k,aU b l=some k:=⟨l[b],by rw[cg];simp[h]⟩
namespace jC
variable{C:eK}[lY C]{call:gf}{aj bC:Nat}{dyn:Bool}{ops:Array Oper}{base:Nat}{aH:Nat→aI×ai}{evs:Nat→Option g5}
variable{G:Nat→Option (List af)}
structure Inv(C:eK)(aj bC:Nat)(ops:Array Oper)(base:Nat)(aH:Nat→aI×ai)(G:Nat→Option (List af))(oW:aE)(H0:List ah)(w0:World)(D:Nat→Prop)(β:aE)(a:Act)(w:World)(H:List ah):Prop where
 ko:Closed ops D
 fr:∀t,aC β ((aH (last D (qK ops t) ops.size)).1.get aj t) (a.tmps.getD t undef)
 size:a.tmps.size=bC
 defers:a.defers=oU.P5
 hp:∀b,aU b H=aU b (aH (last D (cW aH b) ops.size)).2.H
 rel:aL G β H w
 aO:∀(k:Nat) Q,ops[k]? =some Q→gh Q.op=true→¬D k→β (bF ops base k)=none
 Ag:∀(k:Nat) Q,ops[k]? =some Q→gh Q.op=true→∀kk,aU (bF ops base k) H=some kk→kk.mode.alive→∃L,β (bF ops base k)=some L
 nC:bM oW H0 w0 β H w
def Inv.rely{C:eK}{aj bC:Nat}{ops:Array Oper}{base:Nat}{aH:Nat→aI×ai}{G:Nat→Option (List af)}{oW β:aE}{H0 H:List ah}{w0 w:World}{D:Nat→Prop}{a:Act}
 (aq:Inv C aj bC ops base aH G oW H0 w0 D β a w H) {c:World} (h:er w c):Inv C aj bC ops base aH G oW H0 w0 D β a c H:=
 ⟨aq.ko,aq.fr,aq.size,aq.defers,aq.hp,aq.rel.rely h,aq.aO,aq.Ag,aq.nC.trans (h.nC β H)⟩
def CQ{D cW:Nat→Prop}(n:Nat):last D cW n≤n:=by
 induction n with
 |zero=>exact aX _|succ n c=>simp only[last];split<;>omega
def p0(aj:Nat)(ops:Array Oper)(aH:Nat→aI×ai)(D:Nat→Prop)(c:Operand):af:=
 match c with
 |.tmp t=>(aH (last D (qK ops t) ops.size)).1.get aj t|c=>aI.ev aj (aH 0).1 c
variable{oW β:aE}{H0 H:List ah}{w0 w:World}{D:Nat→Prop}{a:Act}
def Inv.ev(aq:Inv C aj bC ops base aH G oW H0 w0 D β a w H)(d:Operand):aC β (p0 aj ops aH D d) (a.eval d):=by
 cases d with
 |tmp t=>exact aq.fr t|const v=>exact I5 β v|global g=>have:=aC.eE (β:=β) (2*g) (.c 0);rw[show gK (2*g) (N.c 0).v=at' g 0 from I3 g 0]at this;exact this
 |func f=>exact .fn (.func f) 0 [] [] [] rfl rfl (fun i d v e=>by simp at e)
variable(T:jC C call aj bC dyn ops base aH evs)
include T
def QD(c:nE ops D i Q){t:Nat}(d:t∈Oper.looksAt ops Q):p0 aj ops aH D (.tmp t)=(aH i).1.get aj t:=by
 have e:=(dW.1 c.get).1
 show(aH (last D (qK ops t) ops.size)).1.get aj t=_;exact FT (x:=fun k=>(aH k).1.get aj t) (fun k f g=>T.QC g f) (Ol e) (c.iff (T.aaj c.get d))
def FX(d:nE ops D i Q):∀c∈Q.op.operands,p0 aj ops aH D c=(aH i).1.ev aj c:=by
 intro c e;cases c with
 |tmp t=>exact T.QD d (by
  unfold Oper.looksAt;refine WB _ (List.mem_filterMap.2 ⟨.tmp t,by simpa using e,rfl⟩))
 |_=>rfl
def aar(c:nE ops D i Q)(S:ai):mH ops.toList (p0 aj ops aH D) Q.guard S=mH ops.toList ((aH i).1.ev aj) Q.guard S:=
 aai (fun t d=>T.QD c d) S
omit T in
def QE(T:jC C call aj bC dyn ops base aH evs)(c:nE ops D i Q)(h:Ord ops i (cW aH b)):aU b (aH (last D (cW aH b) ops.size)).2.H=aU b (aH i).2.H:=by
 have d:=(dW.1 c.get).1;exact FT (x:=fun k=>aU b (aH k).2.H) (fun k _ e=>Ib.1 e) (Ol d) (c.iff h)
def JN{h:aE}(e:nE ops D i Q)(o:∀t,aC h ((aH (last D (qK ops t) ops.size)).1.get aj t) (a.tmps.getD t undef))(p:a.tmps.size=bC)
 {j:af} {v:Value} (q:(aH (i+1)).1=(aH i).1.put aj Q.dst j) (r:aC h j v):
 ∀t,aC h ((aH (last (fun k=>D k∨k=i) (qK ops t) ops.size)).1.get aj t) ((a.put Q.dst v).tmps.getD t undef):=by
 have s:=(dW.1 e.get).1;intro t;by_cases f:Q.dst=some t
 ·have m:qK ops t i:=⟨Q,e.get,f⟩;rw[Qr s m (fun k h1 h2 u=>e.later h2 ((T.aak e.get f k h2 u (by omega)).2 h1)),q,f];have x:t<bC:=Qq T.reg Q (by have:=e.get;exact rH (i:=i) (by simpa using this)) t f;have c:(a.put (some t) v).tmps.getD t undef=v:=by
   simp[Act.put,gV,p,x]
  rw[c];rcases aI.Qh aj (aH i).1 t j with c|c
  ·rw[c];exact r
  ·rw[c];exact .aa _
 ·have m:¬qK ops t i:=by
   rintro⟨z,g,n⟩;rw[e.get]at g;injection g with g;subst g;exact f n
  rw[Qs m];have c:(a.put Q.dst v).tmps.getD t undef=a.tmps.getD t undef:=by
   cases n:Q.dst with
   |none=>rfl|some d=>
    have y:d≠t:=fun c=>f (by rw[n,c]);simp[Act.put,gV,El y]
  rw[c];exact o t
omit T in
def FY{d:List ah}(T:jC C call aj bC dyn ops base aH evs)(e:nE ops D i Q)(g:∀b,aU b H=aU b (aH (last D (cW aH b) ops.size)).2.H)
 (h1:∀b,cW aH b i→aU b d=aU b (aH (i+1)).2.H) (h2:∀b,¬cW aH b i→aU b d=aU b H):
 ∀b,aU b d=aU b (aH (last (fun k=>D k∨k=i) (cW aH b) ops.size)).2.H:=by
 have h:=(dW.1 e.get).1;intro b;by_cases c:cW aH b i
 ·rw[Qr h c (fun k j f m=>e.later f (T.JK j e.get (dN f) c m))];exact h1 b c
 ·rw[Qs c,h2 b c];exact g b
def aas(a1:C.dB=G)(a2:fX C.P G call)(V:oV C.P C.gv)(bq:(aH ops.size).2.ok)(cl:H0.length=base){i:Nat}{Q:Oper}(g:nE ops D i Q)
 (aq:Inv C aj bC ops base aH G oW H0 w0 D β a w H) {au:Act→World→Prop}
 (aJ:∀M a3 w' br,Inv C aj bC ops base aH G oW H0 w0 (fun k=>D k∨k=i) M a3 w' br→au a3 w'):uZ C.P ops i au a w:=by
 have a4:=(dW.1 g.get).1;have ag:(aH (i+1)).2.ok:=T.aac (by omega) (aX _) bq;unfold uZ;rw[g.get];simp only;have bs:=FU (T.step i Q g.get);obtain⟨b,A,bt,W,bu⟩:=bs;have aK:mH ops.toList (p0 aj ops aH D) Q.guard (aH i).2=some (b,A):=by rw[T.aar g];exact bt
 have quiet:∀(x:af) (v:Value) M w',(aH (i+1)).1=(aH i).1.put aj Q.dst x→(aH (i+1)).2.H=(aH i).2.H→gh Q.op=false∨b=false→aC M x v→aL G M H w'→bM β H w M H w'→au (a.put Q.dst v) w':=by
  intro x v M w' X bv I bw aM F;have aw:∀b,¬cW aH b i:=fun b r=>r (by rw[bv]);refine aJ M _ w' H ⟨g.closed,T.JN g (fun t=>(aq.fr t).mono F.le) aq.size X bw,?_,?_,FY T g aq.hp (fun b r=>absurd r (aw b)) (fun b _=>rfl),aM,?_,?_,aq.nC.trans F⟩
  ·cases al:Q.dst<;>simp[Act.put,aq.size]
  ·cases al:Q.dst<;>simp[Act.put,aq.defers]
  ·intro k z s y K;have h1:=aq.aO k z s y (fun h=>K (.inl h));have h2:bF ops base k<H.length:=by
    have h3:∃B,aU (bF ops base k) H=some B:=by
     rw[aq.hp];refine Aj (dL ?_ (T.CP (kI _) (CQ _)));rw[T.len];exact vC s y
    obtain⟨B,h3⟩:=h3;exact sj h3
   rw[F.old _ h2];exact h1
  ·intro k z s y B J L;obtain⟨am,aN⟩:=aq.Ag k z s y B J L;exact⟨am,F.le _ _ aN⟩
 rcases bu with⟨rfl,X,aa⟩|⟨rfl,I,v,bz,X⟩|⟨rfl,I,v,Y,aP,aa,X,ax⟩
 ·
   rw[JL aq.ev aK (by rw[aa]at ag;exact ag)];simp only[m8,ei];exact quiet (.obj .bx []) undef β w X (by rw[aa];exact W.H) (.inr rfl) (.Qk _) aq.rel (bM.refl ..)
 ·
   have a5:p0 aj ops aH D=p0 aj ops aH D:=rfl;have bA:tq C (p0 aj ops aH D) Q.op (base+iJ (ops.toList.take i)) A=some (v,(aH (i+1)).2):=by
    rw[←bz];have an:=T.FX g;revert an I;cases Q.op<;>intro I an<;>simp only[gh,m8]at I<;>simp only[tq]
    ·rename_i t n bB;rw[FN (l:=bB.toList) fun p bD=>an p.2 (by simp only[Op.operands];simp;exact⟨p.1,by simpa using bD⟩)]
    ·rename_i t l c;rw[an l (by simp[Op.operands]),an c (by simp[Op.operands])]
   obtain⟨d,bE,bG,bH,bI,_,_,bJ⟩:=aaa bA aq.ev;have a6:bE.ok:=by
    intro x ao;exact ag x (by rw[bI];exact ao)
   obtain⟨vs,t,aQ,bK,a7,bN,bO⟩:=bJ a6;rw[JL aq.ev aK (bG.ok a6)];simp only[gT];intro ab a8;replace aq:=aq.rely a8;clear a8;refine⟨_,_,bN ab,fun K=>⟨vr _ _,?_⟩⟩;have bP:=g.not;have a9:=aq.aO i Q g.get I bP;have ap:aU (bF ops base i) (aH i).2.H=some ⟨.gen [],.bn⟩:=T.early g.get I i (aX _);have bQ:∃B,aU (bF ops base i) H=some B:=by
    rw[aq.hp];refine Aj (dL ?_ (T.CP (kI _) (CQ _)));rw[T.len];exact vC g.get I
   obtain⟨B,J⟩:=bQ;have ay:H[bF ops base i]? =some B:=by rw[←cg];exact J
   have bR:d.len=vs.length:=by rw[←Data.jB];exact a7.1
   obtain⟨bS,bT,bU⟩:=aq.rel.newAt ay a9 d vs t (by omega) (by rw[bR,Wo];exact a7) (fH.of (xK K) bK);have ba:aE.le β (β.put (bF ops base i) ⟨ab.heap.size,0,vs.length⟩):=aE.Fv a9;have bb:(aH (i+1)).2.H=fe ⟨d,.own⟩ (bF ops base i) (aH i).2.H:=by rw[bH,W.H];rfl
   have bc:bF ops base i<(aH i).2.H.length:=sj ap;have cm:(ab.alloc (.cells ⟨vs⟩ t)).heap.size=ab.heap.size+1:=by
    show(ab.heap.push _).size=_;simp
   refine aJ _ _ _ _ ⟨g.closed,T.JN g (fun t=>(aq.fr t).mono ba) aq.size X (bO ab _ (aE.fJ ..)),?_,?_,?_,bS,?_,?_,?_⟩
   ·cases al:Q.dst<;>simp[Act.put,aq.size]
   ·cases al:Q.dst<;>simp[Act.put,aq.defers]
   ·refine FY T g aq.hp (fun b r=>?_) (fun b r=>?_)
    ·have e:b=bF ops base i:=by
      rcases T.tK g.get r with h|⟨_,h⟩
      ·rw[JJ I]at h;cases h
      ·exact h
     subst e;rw[bb,←iO,kS,kS,av ⟨rfl,sj J⟩,av ⟨rfl,bc⟩]
    ·have e:b≠bF ops base i:=by
      intro E;subst E;apply r
      show aU _ _≠aU _ _;rw[bb,kS,av ⟨rfl,bc⟩,ap];simp
     rw[←iO,kS,ak fun h=>e h.1.symm]
   ·intro k z s y K;rw[aE.gX]
    ·exact aq.aO k z s y (fun h=>K (.inl h))
    ·intro E;exact K (.inr (JI (base:=base) s y g.get I E))
   ·intro k z s y bV ay L;by_cases E:bF ops base k=bF ops base i
    ·rw[E];exact⟨_,aE.fJ ..⟩
    ·rw[aE.gX E];refine aq.Ag k z s y bV ?_ L;rw[←iO,kS,ak fun h=>E h.1.symm]at ay;exact ay
   ·have F:=aq.nC;refine⟨aE.le_trans F.le ba,by rw[lN];exact F.len,F.os,F.tape,F.output,gb F.size (by omega),fun c r K=>?_,fun c r bW=>?_,fun b e=>?_⟩
    ·exact(F.kept c r K).trans (bL.of (bT c (dL r F.size)))
    ·exact F.own c r (bU c (dL r F.size) bW)
    ·rw[aE.gX]
     ·exact F.old b e
     ·have:=CO (ops:=ops) (base:=base) i;omega
 ·
   have aS:Y.ok:=by rw[aa]at ag;exact(JH A Y).1 ag
   have bX:A.ok:=(JG A).1 ((CH T.ext aP).ok aS);rw[JL aq.ev aK bX];simp only[gT];have bd:ee C call (p0 aj ops aH D) Q.op (iI dyn A)=some (v,Y):=by rw[Z3 (T.FX g)];exact aP
   have aT:∀(aV:ee C call (p0 aj ops aH D) Q.op ((iI dyn A).cV H (iI dyn A).low [])=(ee C call (p0 aj ops aH D) Q.op (iI dyn A)).map (dR H (iI dyn A).low []))
    (O:Y.H=A.H),Q.ef C.P a w au:=by
    intro aV O;rw[bd]at aV;have bY:(Y.cV H (iI dyn A).low []).ok:=by intro x ao;exact aS x (by simpa[ai.cV]using ao)
    refine(JA a1 a2 V (o:=Q) (a:=a) (S:=(iI dyn A).cV H (iI dyn A).low []) (S':=Y.cV H (iI dyn A).low []) (x:=v) aV aq.ev aq.rel).2 bY fun aQ w' M aW az Z=>?_;exact quiet v aQ M w' X (by rw[aa,tJ,O,W.H]) (.inl I) aW az Z
   rcases kinds Q.op with u|u|u|u|u
   ·refine aT (FM u) ?_;have:=(vA (f:=ee C call ((aH i).1.ev aj) Q.op) (fun T cs _ _=>FM u) aP).H;rw[this,gk]
   ·cases aY:tr C.P ((aH i).1.ev aj) Q.op A with
    |some t=>
     obtain⟨b,q⟩:=t;have bZ:tr C.P (p0 aj ops aH D) Q.op (iI dyn A)=some (b,q):=by
      obtain⟨t,ad,l,m,x,aA,b0,b1,b2,b3⟩:=Jy aY;have a5:=T.FX g ad (by rw[aA];simp[Op.operands]);rw[aA];simp only[tr,b0,a5,b1,gk,b2,b3]
     refine aT (ZS bZ ?_) ?_
     ·rw[aq.hp,gk,W.H];exact T.aan (aX _) (Ol a4) aq.ko (g.iff (T.aam g.get W aY aP ax))
     ·have:=(vA (f:=ee C call ((aH i).1.ev aj) Q.op) (fun T cs E _=>CG u (fun b _=>by rw[E])) aP).H;rw[this,gk]
    |none=>
    refine aT (CG u fun b e=>?_) ?_
    ·rw[Z4 (T.FX g)]at e;rw[aq.hp,T.QE g (T.aal g.get W aY e aP ax),gk,W.H]
    ·have:=(vA (f:=ee C call ((aH i).1.ev aj) Q.op) (fun T cs E _=>CG u (fun b _=>by rw[E])) aP).H;rw[this,gk]
   ·rw[I]at u;cases u
   ·
     have aB:(iI dyn A).H=(aH i).2.H:=by rw[gk,W.H]
     have aZ:Y.H=(aH (i+1)).2.H:=by rw[aa,tJ]
     let N:Nat→Prop:=fun b=>∃k z,i<k∧ops[k]? =some z∧gh z.op=true∧b=bF ops base k;have ae:∀b,N b→aU b (aH i).2.H=some ⟨.gen [],.bn⟩∧aU b (aH (i+1)).2.H=some ⟨.gen [],.bn⟩:=by
      rintro b ⟨k,z,h1,h2,h3,rfl⟩;exact⟨T.early h2 h3 i (by omega),T.early h2 h3 (i+1) (by omega)⟩
     have bf:∀b,N b→∃B,aU b H=some B:=by
      rintro b ⟨k,z,h1,h2,h3,rfl⟩;rw[aq.hp];refine Aj (dL ?_ (T.CP (kI _) (CQ _)));rw[T.len];exact vC h2 h3
     have ar:∀b,¬N b→aU b H=aU b (aH i).2.H:=by
      intro b e;rw[aq.hp];exact T.QE g (T.aao g.get u fun k z h1 h2 h3 h4=>e ⟨k,z,h1,h2,h3,h4⟩)
     have bg:(aH i).2.H.length=H.length:=by
      refine aaq fun b=>?_;by_cases e:N b
      ·obtain⟨B,h⟩:=bf b e;rw[(ae b e).1,h];rfl
      ·rw[ar b e]
     have bh:∀(b:Nat) k,(aH i).2.H[b]? =some k→k.mode.alive→H[b]? =some k:=by
      intro b k u L;by_cases e:N b
      ·rw[←cg,(ae b e).1]at u;injection u with u;subst u;exact absurd rfl L
      ·rw[←cg,ar b e,cg];exact u
     have b4:aL G β (iI dyn A).H w:=by rw[aB];exact aq.rel.view bg bh
     refine(JA a1 a2 V (o:=Q) (a:=a) bd aq.ev b4).2 aS fun aQ w' M aW az Z=>?_;rw[aZ]at az Z;rw[aB]at Z;have bi:Ext (iI dyn A) Y:=CH T.ext aP
     classical
     let H2:List ah:=(List.range (aH (i+1)).2.H.length).map fun b=>if N b then ja H b else ja (aH (i+1)).2.H b
     have bj:H2.length=(aH (i+1)).2.H.length:=by simp[H2]
     have O:∀b,aU b H2=if N b then aU b H else aU b (aH (i+1)).2.H:=by
      intro b;rcases cv b (aH (i+1)).2.H.length with e|e
      ·have:aU b H2=some (if N b then ja H b else ja (aH (i+1)).2.H b):=by
        rw[cg];simp[H2,e]
       rw[this];split
       ·rename_i cC;obtain⟨B,h⟩:=bf b cC;simp[ja,h]
       ·obtain⟨B,h⟩:=Aj e;simp[ja,h]
      ·have h1:aU b H2=none:=by rw[cg];exact di (by rw[bj];exact e)
       rw[h1];split
       ·rename_i cC;have:=sj (ae b cC).2;omega
       ·rw[cg,di e]
     have aw:∀b,N b→¬cW aH b i:=by
      intro b e r;exact r (by rw[(ae b e).1,(ae b e).2])
     obtain⟨b5,bk⟩:=aL.Z9 (H2:=H2) aq.rel bg bh az Z N bj
      (fun b e=>⟨by rw[←cg,←cg,O,av e],fun cn aD=>by rw[←cg,(ae b e).1]at aD;injection aD with aD;subst aD;rfl,fun k u L=>by
       obtain⟨b6,z,h1,h2,h3,rfl⟩:=e;rw[←cg]at u;refine⟨?_,aq.Ag b6 z h2 h3 k u L⟩;rw[aq.hp]at u;have:=T.owned h2 h3 _ (CQ _) k u;cases V:k.mode with
       |own=>rfl|ro=>exact absurd V this|bn=>exact absurd V L⟩)
      (fun b e=>by rw[←cg,←cg,O,ak e])
      (fun b k u aM=>by
       rw[←cg]at u⊢;have:=bi.ro b k (by rw[aZ];exact u) aM;rw[aB]at this;exact this)
     refine aJ M _ w' H2 ⟨g.closed,T.JN g (fun t=>(aq.fr t).mono Z.le) aq.size X aW,?_,?_,?_,b5,?_,?_,aq.nC.trans bk⟩
     ·cases al:Q.dst<;>simp[Act.put,aq.size]
     ·cases al:Q.dst<;>simp[Act.put,aq.defers]
     ·refine FY T g aq.hp (fun b r=>?_) (fun b r=>?_)
      ·rw[O,ak fun e=>aw b e r]
      ·rw[O];split
       ·rfl
       ·rename_i e;rw[ar b e];exact Ib.1 r
     ·intro k z s y K;have h1:=aq.aO k z s y (fun h=>K (.inl h));have h2:bF ops base k<H.length:=by
       obtain⟨B,h3⟩:∃B,aU (bF ops base k) H=some B:=by
        rw[aq.hp];refine Aj (dL ?_ (T.CP (kI _) (CQ _)));rw[T.len];exact vC s y
       exact sj h3
      rw[bk.old _ h2];exact h1
     ·intro k z s y B J L;by_cases b7:D k
      ·
        have b8:∃am,β (bF ops base k)=some am:=by
         rw[O]at J;by_cases e:N (bF ops base k)
         ·rw[av e]at J;exact aq.Ag k z s y B J L
         ·rw[ak e]at J;obtain⟨aG,bl⟩:∃aG,aU (bF ops base k) (aH i).2.H=some aG:=by
           refine Aj (dL ?_ (T.CP (kI _) (Ol a4)));rw[T.len];exact vC s y
          have b9:aG.mode.alive:=by
           intro V;have:=bi.bn _ _ (by rw[aB];exact bl) V;rw[aZ,J]at this;injection this with this;subst this;exact L V
          exact aq.Ag k z s y aG (by rw[ar _ e];exact bl) b9
        obtain⟨am,aN⟩:=b8;exact⟨am,Z.le _ _ aN⟩
      ·
        exfalso;have ca:k≠i:=by
         intro E;subst E;rw[g.get]at s;injection s with s;subst s;rw[y]at I;cases I
        have K:¬(D k∨k=i):=fun h=>h.elim b7 ca;have aA:aU (bF ops base k) H2=aU (bF ops base k) (aH (last (fun k=>D k∨k=i) (cW aH (bF ops base k)) ops.size)).2.H:=
         FY T g aq.hp (fun b r=>by rw[O,ak fun e=>aw b e r]) (fun b r=>by
          rw[O];split
          ·rfl
          ·rename_i e;rw[ar b e];exact Ib.1 r) _
        have co:=(dW.1 s).1;have cb:∀n,n≤ops.size→last (fun k=>D k∨k=i) (cW aH (bF ops base k)) n≤k:=by
         intro n
         induction n with
         |zero=>intro _;simp[last]|succ n cd=>
          intro cp;simp only[last];split
          ·rename_i r;rcases w6 n k with h|h|h
           ·omega
           ·subst h;exact absurd r.1 K
           ·exfalso;have ce:cW aH (bF ops base k) k:=by
             intro cf;have ap:∀j,k≤j→j≤ops.size→aU (bF ops base k) (aH j).2.H=some ⟨.gen [],.bn⟩:=by
              intro j
              induction j with
              |zero=>intro h1 _;have:k=0:=by omega
                     subst this;exact T.early s y 0 (aX _)
              |succ j a0=>
               intro h1 h2;rcases cv k (j+1)with h3|h3
               ·by_cases ch:j=k
                ·subst ch;rw[cf];exact T.early s y j (aX _)
                ·have bm:j<ops.size:=by omega
                 obtain⟨_,h|⟨ci,b,_,h⟩|⟨_,_,v,cq,cr,cj,_,h,ao,_⟩⟩:=T.vD (dN bm)
                 ·rw[h];exact a0 (by omega) (by omega)
                 ·rw[h,kS,ak]
                  ·exact a0 (by omega) (by omega)
                  ·intro⟨E,_⟩;have:=JI (dN bm) ci s y E;omega
                 ·rw[h];exact ao.bn _ _ (by rw[gk,cj.H];exact a0 (by omega) (by omega)) rfl
               ·have:k=j+1:=by omega
                subst this;exact T.early s y _ (aX _)
             exact r.2 (by rw[ap n (by omega) (by omega),ap (n+1) (by omega) (by omega)])
            have e:=T.JK h s (dN (by omega)) ce r.2;have bo:=g.closed;have bp:n<ops.size:=by omega
            exact K (FO bo n k _ (dN bp) e fun E ax ck=>bo n _ (dN bp) r.1 E ax ck)
          ·exact cd (by omega)
        rw[aA,T.early s y _ (cb _ (aX _))]at J;injection J with J;subst J;exact L rfl
   ·rw[u]at aP;cases aP
end jC
end
section
variable [aR][aF][oU]
open Region
variable{R:Array Oper}{Q:Exit→Act→World→Prop}
def QF:∀(n b:Nat),aU b (mJ n)=if b<n then some ⟨.gen [],.bn⟩else none|0,b=>by simp[mJ,aU]|n+1,0=>by simp[mJ,aU]|n+1,b+1=>by simp[mJ,aU,QF n b]
def QG:∀n,(mJ n).length=n|0=>rfl|n+1=>by simp[mJ,QG n]
def vE(S:ai)(n:Nat):(uX S n).H=S.H++mJ n:=by cases n<;>simp[uX,mJ]
def aat(S:ai)(n:Nat):(uX S n).ok↔S.ok:=by cases n<;>exact Iff.rfl
def aau(S:ai)(n:Nat):(uX S n).low=S.low:=by cases n<;>rfl
def Ak(a:List ah)(n b:Nat):aU b (a++mJ n)=if b<a.length then aU b a else if b<a.length+n then some ⟨.gen [],.bn⟩else none:=by
 rw[cg,cg];by_cases h:b<a.length
 ·rw[iE h,av h]
 ·rw[ie (by omega),ak h,←cg,QF];by_cases h2:b<a.length+n
  ·rw[av h2,av (by omega)]
  ·rw[ak h2,ak (by omega)]
section
variable{G:Nat→Option (List af)}{β:aE}{w:World}
def aL.pad{g:List ah}(i:aL G β g w)(n:Nat):aL G β (g++mJ n) w∧bM β g w β (g++mJ n) w:=by
 have j:∀(b:Nat) k,(g++mJ n)[b]? =some k→k.mode.alive→g[b]? =some k:=by
  intro b k a e;rw[←cg,Ak]at a;split at a
  ·rw[←cg];exact a
  ·split at a
   ·injection a with a;subst a;exact absurd rfl e
   ·cases a
 refine⟨⟨fun b k a e=>i.blk b k (j b k a e) e,fun b l k m f o p a q d e=>i.dO b l k m f o p (j b k a (eu d)) (j l m q e) d e,
  fun b f h=>by have:=i.fW b f h;simp;omega,i.dB,fun b k f a d=>i.apart b k f (j b k a (eu d)) d⟩,
  ⟨aE.le_refl β,by simp,rfl,rfl,rfl,aX _,fun _ _ _=>bL.refl _ _,fun c t ⟨b,k,f,a,d,r,s⟩=>⟨b,k,f,j b k a (eu d),d,r,s⟩,fun _ _=>rfl⟩⟩
def count_set:∀(l:List Bool) (i:Nat),l[i]? =some false→(l.set i true).count false+1=l.count false
 |[],i,h=>by simp at h|a::l,0,h=>by simp at h;subst h;simp|a::l,i+1,h=>by
  have:=count_set l i (by simpa using h);simp only[Wi,List.count_cons];omega
def aav{l:List Bool}(h:l.count false=0)(i:Nat)(hi:i<l.length):l[i]? =some true:=by
 have a:false∉l:=List.count_eq_zero.1 h;have:l[i]∈l:=Wp hi;rw[bW hi];cases b:l[i]with
 |true=>rfl|false=>rw[b]at this;exact absurd this a
variable{C:eK}[lY C]{call:gf}{aj U:Nat}
def aaw(F:C.dB=G)(I:fX C.P G call)(p:oV C.P C.gv){dyn:Bool}{base:Nat}{aH:Nat→aI×ai}{evs:Nat→Option g5}
 (T:jC C call aj U dyn R base aH evs) (J:(aH R.size).2.ok) {oW:aE} {H0:List ah} {w0:World} (K:H0.length=base)
 (L:∀q w' h,cL aj U h (aH R.size).1 q→aL G h (aH R.size).2.H w'→bM oW H0 w0 h (aH R.size).2.H w'→Q .normal q w'):
 ∀(m:Nat) (listed:Array Bool) (β:aE) (a:Act) (w:World) (d:List ah),listed.size=R.size→listed.toList.count false≤m→
  jC.Inv C aj U R base aH G oW H0 w0 (fun k=>listed.getD k false=true) β a w d→EQ C.P .any R Q m listed a w:=by
 have A:∀(listed:Array Bool) (β:aE) (a:Act) (w:World) (d:List ah),listed.size=R.size→
  jC.Inv C aj U R base aH G oW H0 w0 (fun k=>listed.getD k false=true) β a w d→Region.ready .any R listed=[]→Q .normal a w:=by
  intro listed β a w d e aq r;have M:∀k,k<R.size→listed.getD k false=true:=by
   intro k
   induction k using Nat.strongRecOn with
   |_ k u=>
    intro c;cases f:listed.getD k false with
    |true=>rfl|false=>
     exfalso;have p:k∈Region.ready .any R listed:=by
      rw[mem_ready];refine⟨?_,R[k],dN c,fun g v x=>?_⟩
      ·have N:k<listed.size:=by omega
       simp only[gV,dN N,ic]at f⊢;exact f
      ·have:=Z8 T.reg k _ (dN c) g v x;exact u g.on this (by omega)
     rw[r]at p;cases p
  have B:∀{O:Type} (n:Nat→O) (cW:Nat→Prop),(∀k,k<R.size→¬cW k→n (k+1)=n k)→n (last (fun k=>listed.getD k false=true) cW R.size)=n R.size:=
   fun n cW S=>FT S (aX _) fun k c _=>⟨fun _=>c,fun _=>M k c⟩
  have V:d=(aH R.size).2.H:=aap fun b=>by
   rw[aq.hp];exact B (fun k=>aU b (aH k).2.H) _ fun k _ c=>Ib.1 c
  subst V;refine L a w β ⟨fun t=>?_,aq.size,aq.defers⟩ aq.rel aq.nC;have:=aq.fr t;rw[B (fun k=>(aH k).1.get aj t) (jC.qK R t) fun k c f=>T.QC f c]at this;exact this
 intro m
 induction m with
 |zero=>
  intro listed β a w d e f aq;have r:Region.ready .any R listed=[]:=by
   rw[List.eq_nil_iff_forall_not_mem];intro j W;obtain⟨o,D,s,_⟩:=mem_ready.1 W;have y:j<listed.size:=by rw[e];exact(dW.1 s).1
   have:=aav (l:=listed.toList) (by omega) j (by simpa using y);simp only[gV,dN y,ic]at o;simp[y,o]at this
  exact⟨r,A listed β a w d e aq r⟩
 |succ m u=>
  intro listed β a w d e f aq;refine⟨A listed β a w d e aq,fun i hi=>?_⟩;obtain⟨o,D,s,X⟩:=mem_ready.1 hi;have z:i<listed.size:=by rw[e];exact(dW.1 s).1
  have E:listed[i]? =some false:=by
   simp only[gV,dN z,ic]at o;rw[dN z,o]
  have Y:jC.nE R (fun k=>listed.getD k false=true) i D:=
   ⟨aq.ko,by simp[gV,E],s,fun g v x=>X g v x⟩
  refine T.aas F I p J K Y aq fun h q w' Z aa=>?_;refine u _ h q w' Z (by simp[e]) ?_ ?_
  ·have:=count_set listed.toList i (by simpa using E);simp only[Wl];omega
  ·have g:(fun k=>(listed.setIfInBounds i true).getD k false=true)=fun k=>listed.getD k false=true∨k=i:=by
    funext k;by_cases c:i=k
    ·subst c;simp[gV,z]
    ·simp[gV,El c,fB c]
   rw[g];exact aa
def QH(D:C.dB=G)(A:fX C.P G call)(E:oV C.P C.gv)(V:C.P.follows .mixedOrders=true){id:Nat}{m:Bool}{c:Env}(W:c.call=call)(X:c.aj=aj)
 (F:tI C.P U (c.dyn id) R m=true) {o I:aI} {S p:ai} {d:dJ} (h:B5 C id R.toList (B4 R) m c o S=some (d,I,p)) (ok:p.ok) {a:Act} (q:cL aj U β o a) (g:aL G β S.H w)
 (J:∀f w' e,cL aj U e I f→aL G e p.H w'→bM β S.H w e p.H w'→Q .normal f w'):d=.normal∧(Code.region id R m).ef C.P Q a w:=by
  subst W X;unfold B5 at h;cases m with
  |false=>
   simp only at h;split at h
   case h_2=>cases h
   rename_i r s B;simp only[aB,aN]at h;obtain⟨rfl,rfl,rfl⟩:=h;refine⟨rfl,?_⟩;refine OK ?_;have:=Z7 D A E (aj:=c.aj) (ops:=R) (Qq F) (Q:=Q) R.toList 0 o r S s β a w (by simp) B ok q g (fun f w' e u v x=>J f w' e (u.eF _) v x);rw[Ww];simpa using this
  |true=>
   simp only at h;split at h
   case h_2=>cases h
   rename_i r s Y B;split at h
   ·cases h
   rename_i Z;simp only[aB,aN]at h;obtain⟨rfl,rfl,rfl⟩:=h;refine⟨rfl,?_⟩;obtain⟨aH,evs,y,aa,ab,_,ad⟩:=aab R.toList 0 S.H.length o r (uX S (iJ R.toList)) s Y B;have K:aH R.size=(r,s):=by simpa using aa
   have T:jC C c.call c.aj U (c.dyn id) R S.H.length aH evs:={
    reg:=F
    ext:=A.ext
    step:=fun k d j=>ab k d (by simpa using j)
    evs:=fun k ae ag ah h1 h2 h3 h4=>by
     have:=ad _ Z k ae ag ah h1 (by simpa using h2) h3 h4;simpa using this
    pad:=fun b h1 h2=>by
     rw[y]
     show aU b (uX S _).H=_;rw[vE,Ak,ak (by omega),av h2]
    len:=by
     rw[y]
     show(uX S _).H.length=_;rw[vE,fA,QG]}
   refine Xa V fun L M=>?_;have al:=M.nC β S.H;replace g:=g.rely M;obtain⟨am,an⟩:=(g.drew).pad (iJ R.toList);have ao:=(al.trans (bM.drew β S.H L)).trans an;have N:∀cW n,last (fun k=>(Array.replicate R.size false).getD k false=true) cW n=0:=by
    intro cW n
    induction n with
    |zero=>rfl|succ n ap=>
     simp only[last];rw[ak,ap];rintro⟨h1,_⟩;simp only[gV]at h1;rw[aom]at h1;split at h1<;>simp at h1
   have aq:∀k,¬((Array.replicate R.size false).getD k false=true):=by
    intro k h1;simp only[gV]at h1;rw[aom]at h1;split at h1<;>simp at h1
   refine aaw D A E T (by rw[K];exact ok) rfl (oW:=β) (H0:=S.H) (w0:=w) (fun f w' e u v x=>?_) R.size _ β a L.drew (S.H++mJ (iJ R.toList)) (by simp) ?_ ?_
   ·rw[K]at u v x;exact J f w' e (u.eF _) v x
   ·have:=List.count_le_length (l:=(Array.replicate R.size false).toList) (a:=false);simp
   ·refine⟨fun i d j hi=>absurd hi (aq i),fun t=>?_,q.size,q.defers,fun b=>?_,am,fun k d j O _=>?_,fun k d j O ax z ar=>?_,ao⟩
    ·rw[N,y];exact q.val t
    ·rw[N,y,←vE]
    ·cases au:β (jC.bF R S.H.length k)with|none=>rfl|some aw=>have:=g.fW _ aw au;have:=jC.CO (ops:=R) (base:=S.H.length) k;omega
    ·exfalso;rw[Ak,ak (by have:=jC.CO (ops:=R) (base:=S.H.length) k;omega),av (jC.vC j O)]at z;injection z with z;subst z;exact ar rfl
end
end
section
variable [aR][aF][oU]
open Region
variable{c:Code}{S S':ai}{E:Env}{P:Program}{R T:aI}
structure xS(B:Nat)(S S':ai):Prop where
 ok:S'.ok→S.ok
 low:S'.low≤S.low
 len:S.H.length≤S'.H.length
 same:∀b,b<B→b<S'.low→aU b S'.H=aU b S.H
 bn:∀b k,b<B→aU b S.H=some k→k.mode=.bn→aU b S'.H=some k
 ro:∀b k,aU b S'.H=some k→k.mode=.ro→aU b S.H=some k
def xS.trans{B:Nat}{a b c:ai}(h:xS B a b)(k:xS B b c):xS B a c:=
 ⟨fun l=>h.ok (k.ok l),gb k.low h.low,gb h.len k.len,fun d e i=>(k.same d e i).trans (h.same d e (dL i k.low)),
  fun d f j e g=>k.bn d f j (h.bn d f j e g) g,fun d f e g=>h.ro d f (k.ro d f e g) g⟩
def Ext.toB{B:Nat}(h:Ext S S')(cQ:B≤S.H.length):xS B S S':=
 ⟨h.ok,h.low,h.len,fun b d a=>h.same b (by omega) a,fun b k _=>h.bn b k,h.ro⟩
section
variable{C:eK}{call:gf}{aj:Nat}{dyn:Bool}{U:List Oper}
def aax(p:xQ call){bF B:Nat}{m:Oper}{q:Option g5}(h:stepW C call aj dyn U bF m R S=some (T,S',q))(cQ:B≤S.H.length)(y:B≤bF):xS B S S':=by
 obtain⟨b,i,z,j,h|h|h⟩:=FU h
 ·obtain⟨_,_,h⟩:=h;rw[h];exact j.ext.toB cQ
 ·obtain⟨_,r,v,a,_⟩:=h;obtain⟨⟨k,f,h1⟩,h2⟩:=Qt a;have s:S'.low=i.low:=by
   unfold tq at a;split at a
   ·split at a
    ·simp only[aB,aN]at a;obtain⟨_,rfl⟩:=a;rfl
    ·cases a
   ·split at a
    case h_2=>cases a
    rename_i t l d;split at a
    case h_2=>cases a
    simp only[aB,aN]at a;obtain⟨_,rfl⟩:=a;unfold tg at d
    repeat'(split at d)
    all_goals(try(cases d;done))
    simp only[aB,aN]at d;obtain⟨_,rfl⟩:=d;have h1:=Go.aA.B.fU ‹Go.aA.B.cj (N.fits _) _=some _›;have h2:=Go.aA.B.fU ‹Go.aA.B.cj (gW _ _ _) _=some _›;exact(h2.1.trans h1.1).low
   ·split at a
    case h_2=>cases a
    rename_i t l d;split at a
    case h_2=>cases a
    simp only[aB,aN]at a;obtain⟨_,rfl⟩:=a;unfold th at d
    repeat'(split at d)
    all_goals(try(cases d;done))
    simp only[aB,aN]at d;obtain⟨_,rfl⟩:=d;rfl
   ·cases a
  refine(j.ext.toB cQ).trans ⟨h2,by rw[s];exact aX _,by rw[h1,iO,lN];exact aX _,fun b n _=>?_,fun b u n e d=>?_,fun b u e d=>?_⟩
  ·rw[h1,kS,ak (by omega)]
  ·rw[h1,kS,ak (by omega)];exact e
  ·rw[h1,kS]at e;split at e
   ·injection e with e;subst e;rw[f]at d;cases d
   ·exact e
 ·obtain⟨_,r,v,l,a,w,_,_⟩:=h;have g:=CH p a;refine(j.ext.toB cQ).trans ?_;have A:B≤i.H.length:=by rw[j.H];exact cQ
  subst w;refine⟨fun m=>(JG i).1 (g.ok ((JH i l).1 m)),?_,by rw[tJ];have:=g.len;rw[gk]at this;exact this,fun b n o=>?_,fun b k n f d=>?_,fun b k f d=>?_⟩
  ·cases dyn with|true=>exact Br _ _|false=>exact g.low
  ·rw[tJ];have x:b<l.low:=by
    cases dyn with
    |true=>exact dL o (Bs _ _)|false=>exact o
   have:=g.same b (by rw[gk];omega) x;rw[gk]at this;exact this
  ·rw[tJ];exact g.bn b k (by rw[gk];exact f) d
  ·rw[tJ]at f;have:=g.ro b k f d;rw[gk]at this;exact this
def aay(d:xQ call){B:Nat}:∀(r:List Oper) (i bF:Nat) (R T:aI) (S S':ai) (a:List (Nat×g5)),uW C call aj dyn U r i bF R S=some (T,S',a)→B≤S.H.length→B≤bF→xS B S S':=by
 intro r
 induction r with
 |nil=>
  intro i bF R T S S' a h cQ b;simp only[uW,aB,aN]at h;obtain⟨_,rfl,_⟩:=h;exact(Ext.refl _).toB cQ
 |cons e r f=>
  intro i bF R T S S' a h cQ b;simp only[uW]at h;split at h
  ·cases h
  rename_i k l m g;split at h
  ·cases h
  rename_i n o p j;simp only[aB,aN]at h;obtain⟨rfl,rfl,rfl⟩:=h;have h1:=aax d g cQ b;refine h1.trans (f _ _ _ _ _ _ _ j (gb cQ h1.len) ?_);unfold EH;cases gh e.op<;>simp<;>omega
end
def aaz{C:eK}[lY C](j:xQ E.call){id:Nat}{U:List Oper}{eZ:Nat→Nat}{l:Bool}{g:dJ}(h:B5 C id U eZ l E R S=some (g,T,S')):Ext S S':=by
 unfold B5 at h;cases l with
 |false=>
  simp only at h;split at h
  case h_2=>cases h
  rename_i m n i;simp only[aB,aN]at h;obtain⟨rfl,rfl,rfl⟩:=h;exact JC j _ _ _ _ _ i
 |true=>
  simp only at h;split at h
  case h_2=>cases h
  rename_i m n p i;split at h
  ·cases h
  simp only[aB,aN]at h;obtain⟨rfl,rfl,rfl⟩:=h;have a:=aay j (B:=S.H.length) _ _ _ _ _ _ _ _ i (by rw[vE];simp) (aX _);refine⟨fun g=>(aat S _).1 (a.ok g),by have:=a.low;rw[aau]at this;exact this,?_,fun b d o=>?_,fun b k e f=>?_,fun b k e f=>?_⟩
  ·have:=a.len;rw[vE,fA]at this;omega
  ·rw[a.same b d o,vE,Ak,av d]
  ·have d:=sj e;exact a.bn b k d (by rw[vE,Ak,av d];exact e) f
  ·have:=a.ro b k e f;rw[vE,Ak]at this;split at this
   ·exact this
   ·split at this
    ·injection this with this;subst this;cases f
    ·cases this
def dJ.ex:dJ→Exit|.normal=>.normal|.exit id=>.exit id|.ret=>.ret
section
variable{G:Nat→Option (List af)}
def dc(P:Program)(G:Nat→Option (List af))(aj bC:Nat)(c:Code)(f:aI→ai→Option (dJ×aI×ai)):Prop:=
 ∀R S d T S',f R S=some (d,T,S')→Ext S S'∧(S'.ok→∀β a w,cL aj bC β R a→aL G β S.H w→∀e:Exit→Act→World→Prop,
  (∀g w' b,cL aj bC b T g→aL G b S'.H w'→bM β S.H w b S'.H w'→e d.ex g w')→c.ef P e a w)
def codeOk(P:Program)(bC:Nat)(dyn:Nat→Bool):Nat→Code→Bool
 |0,_=>false|n+1,c=>
  match c with
  |.region id U d=>tI P bC (dyn id) U d|.seq a b=>
   match codeOk P bC dyn n a with
   |true=>codeOk P bC dyn n b|false=>false
  |.cond _ a b=>
   match codeOk P bC dyn n a with
   |true=>codeOk P bC dyn n b|false=>false
  |.block _ b=>codeOk P bC dyn n b|.loop b=>codeOk P bC dyn n b|_=>true
def cT:Nat→Code→List Code
 |0,_=>[]|n+1,c=>
  match c with
  |.seq a b=>cT n a++cT n b|.cond _ a b=>cT n a++cT n b|.block _ b=>cT n b|.loop b=>b::cT n b|_=>[]
def QI{b:Exit→Act→World→Prop}(aq:Nat→Act→World→Prop){n:Nat}{a:Act}{w:World}(e:aq n a w)
 (round:∀n a w,aq n a w→c.ef P (Exit.then (fun d w'=>∃m,m<n∧aq m d w') b) a w):zL P c b a w:=by
 induction n using Nat.strongRecOn generalizing a w with
 |_ n f=>
  refine xx (B8 (round n a w e) fun g d w' q=>?_);cases g with
  |normal=>obtain⟨m,h,b7⟩:=q;exact f m h b7
  |exit id=>exact q|goto l=>exact q|ret=>exact q|panic ch=>exact q|outgrown=>exact q
def eH(P:Program)(G:Nat→Option (List af))(aj bC:Nat)(c:Code)(f:aI→ai→Option (dJ×aI×ai)):Prop:=
 ∀R S d T S',f R S=some (d,T,S')→Ext S S'∧(S'.ok→∀β a w,cL aj bC β R a→aL G β S.H w→∀e:Exit→Act→World→Prop,
  (∀g w' b,cL aj bC b T g→aL G b S'.H w'→bM β S.H w b S'.H w'→e d.ex g w')→zL P c e a w)
def eH.run{G:Nat→Option (List af)}{aj bC:Nat}{f:aI→ai→Option (dJ×aI×ai)}(h:eH P G aj bC c f):dc P G aj bC (.loop c) f:=by
 intro R S b T S' d;obtain⟨h1,h2⟩:=h R S b T S' d;exact⟨h1,fun ok β a w e g i j=>OG (h2 ok β a w e g i j)⟩
def xT(f g:aI→ai→Option (dJ×aI×ai))(R:aI)(S:ai):Option (dJ×aI×ai):=
 match f R S with
 |none=>none|some (a,R,S)=>
  match a with
  |.normal=>g R S|a=>some (a,R,S)
def eH.xT{G:Nat→Option (List af)}{aj bC:Nat}{f g:aI→ai→Option (dJ×aI×ai)}(s:dc P G aj bC c f)(t:eH P G aj bC c g):eH P G aj bC c (xT f g):=by
 intro R S F T S' h;unfold aA.xT at h;split at h
 ·cases h
 rename_i u H I h1;obtain⟨o,p⟩:=s _ _ _ _ _ h1;cases u with
 |normal=>
  simp only at h;obtain⟨r,v⟩:=t _ _ _ _ _ h;refine⟨o.trans r,fun ok β a w b d q e=>xx ?_⟩;refine p (r.ok ok) β a w b d _ fun j w' k l m n=>?_;exact v ok k j w' l m q fun x y z A B D=>e x y z A B (n.trans D)
 |exit i=>
  simp only[aB,aN]at h;obtain⟨rfl,rfl,rfl⟩:=h;exact⟨o,fun ok β a w b d q e=>xx (p ok β a w b d _ fun j w' k l m n=>e j w' k l m n)⟩
 |ret=>
  simp only[aB,aN]at h;obtain⟨rfl,rfl,rfl⟩:=h;exact⟨o,fun ok β a w b d q e=>xx (p ok β a w b d _ fun j w' k l m n=>e j w' k l m n)⟩
variable{C:eK}[lY C]{bC:Nat}
def FZ(n:Nat)(c:Code)(E:Env)(R:aI)(S:ai):(match jz C n c with|⟨f⟩=>f E R S)=exec C n c E R S:=rfl
def aaA{f:Code}(v:(bX f).bind E.lo=none):∀(n:Nat),(∀m,m<n→dc C.P G E.aj bC f (exec C m f E))→
 ∀R S q T S',exec C n (.loop f) E R S=some (q,T,S')→Ext S S'∧(S'.ok→∀β a w,cL E.aj bC β R a→aL G β S.H w→∀e:Exit→Act→World→Prop,
  (∀d w' b,cL E.aj bC b T d→aL G b S'.H w'→bM β S.H w b S'.H w'→e q.ex d w')→zL C.P f e a w):=by
 intro n
 induction n with
 |zero=>intro _ R S q T S' h;simp[exec,jz]at h|succ n x=>
  intro t R S q T S' h;simp only[exec,jz,IA,FZ,v]at h;split at h
  ·cases h
  rename_i y L M h1;obtain⟨r,s⟩:=t n (Om n) _ _ _ _ _ h1;cases y with
  |normal=>
   simp only at h;obtain⟨u,z⟩:=x (fun m A=>t m (Nat.lt_succ_of_lt A)) _ _ _ _ _ h;refine⟨r.trans u,fun ok β a w g j e k=>xx ?_⟩;refine s (u.ok ok) β a w g j _ fun d w' b l o p=>?_;exact z ok b d w' l o e fun B D F I J K=>k B D F I J (p.trans K)
  |exit i=>
   simp only[aB,aN]at h;obtain⟨rfl,rfl,rfl⟩:=h;exact⟨r,fun ok β a w g j e k=>xx (s ok β a w g j _ fun d w' b l o p=>k d w' b l o p)⟩
  |ret=>
   simp only[aB,aN]at h;obtain⟨rfl,rfl,rfl⟩:=h;exact⟨r,fun ok β a w g j e k=>xx (s ok β a w g j _ fun d w' b l o p=>k d w' b l o p)⟩
def F0(aa:C.dB=G)(M:fX C.P G E.call)(ab:oV C.P C.gv)(ad:C.P.follows .mixedOrders=true):
 ∀(n m:Nat) (c:Code),codeOk C.P bC E.dyn m c=true→(∀k,∀b∈cT k c,∀r,(bX b).bind E.lo=some r→dc C.P G E.aj bC (.loop b) r)→dc C.P G E.aj bC c (exec C n c E):=by
 intro n
 induction n using Nat.strongRecOn with
 |_ ak ae=>
  intro m c s D R S ag T S' h;cases ak with
  |zero=>simp[exec,jz]at h|succ n=>
  have I:=ae n (Om n);cases m with
  |zero=>simp[codeOk]at s|succ m=>
  cases c with
  |skip=>
   simp only[exec,jz,aB,aN]at h;obtain⟨rfl,rfl,rfl⟩:=h;exact⟨Ext.refl _,fun ok β a w d e Q f=>WZ (f a w β d e (bM.refl ..))⟩
  |exit id=>
   simp only[exec,jz,aB,aN]at h;obtain⟨rfl,rfl,rfl⟩:=h;exact⟨Ext.refl _,fun ok β a w d e Q f=>W1 (f a w β d e (bM.refl ..))⟩
  |ret=>
   simp only[exec,jz,aB,aN]at h;obtain⟨rfl,rfl,rfl⟩:=h;exact⟨Ext.refl _,fun ok β a w d e Q f=>W0 (f a w β d e (bM.refl ..))⟩
  |region id U ay=>
   simp only[exec,jz]at h;simp only[codeOk]at s;refine⟨aaz M.ext h,fun ok β a w d e Q f=>?_⟩;obtain⟨rfl,_⟩:=QH aa M ab ad rfl rfl s h ok d e (Q:=fun _ _ _=>True) (fun _ _ _ _ _ _=>trivial);exact(QH aa M ab ad rfl rfl s h ok d e (Q:=Q) f).2
  |seq A N=>
   simp only[exec,jz,OA,FZ]at h;simp only[codeOk]at s;split at s
   case h_2=>cases s
   rename_i J;have K:=I m A J (fun k b u r x=>D (k+1) b (by simp[cT,u]) r x);have O:=I m N s (fun k b u r x=>D (k+1) b (by simp[cT,u]) r x);split at h
   ·cases h
   rename_i V al W h1;obtain⟨y,z⟩:=K _ _ _ _ _ h1;cases V with
   |normal=>
    simp only at h;obtain⟨L,X⟩:=O _ _ _ _ _ h;refine⟨y.trans L,fun ok β a w d e Q f=>zK ?_⟩;refine z (L.ok ok) β a w d e _ fun g w' o p q l=>?_;exact X ok o g w' p q Q fun am an ao ap aq ar=>f am an ao ap aq (l.trans ar)
   |exit i=>
    simp only[aB,aN]at h;obtain⟨rfl,rfl,rfl⟩:=h;refine⟨y,fun ok β a w d e Q f=>zK ?_⟩;exact z ok β a w d e _ fun g w' o p q l=>f g w' o p q l
   |ret=>
    simp only[aB,aN]at h;obtain⟨rfl,rfl,rfl⟩:=h;refine⟨y,fun ok β a w d e Q f=>zK ?_⟩;exact z ok β a w d e _ fun g w' o p q l=>f g w' o p q l
  |cond t A N=>
   simp only[exec,jz,OB,FZ]at h;simp only[codeOk]at s;split at s
   case h_2=>cases s
   rename_i J;have K:=I m A J (fun k b u r x=>D (k+1) b (by simp[cT,u]) r x);have O:=I m N s (fun k b u r x=>D (k+1) b (by simp[cT,u]) r x);split at h
   case h_2=>cases h
   rename_i au av;have ah:∀β a,cL E.aj bC β R a→a.eval t=.bool au.v:=by
    intro β a d;have:=d.ev t;rw[av]at this;exact this.tC
   split at h
   ·rename_i W Y;obtain⟨F,Z⟩:=B.oM Y;obtain⟨y,z⟩:=K _ _ _ _ _ h;refine⟨F.ext.trans y,fun ok β a w d e Q f=>?_⟩;refine W2 (by rw[ah β a d,Z (y.ok ok)]) ?_;refine z ok β a w d (by rw[F.H];exact e) Q fun g w' o p q l=>f g w' o p q (by rw[F.H]at l;exact l)
   ·rename_i W Y;obtain⟨F,Z⟩:=B.oM Y;obtain⟨y,z⟩:=O _ _ _ _ _ h;refine⟨F.ext.trans y,fun ok β a w d e Q f=>?_⟩;refine W3 (by rw[ah β a d,Z (y.ok ok)]) ?_;refine z ok β a w d (by rw[F.H];exact e) Q fun g w' o p q l=>f g w' o p q (by rw[F.H]at l;exact l)
   ·cases h
  |block id A=>
   simp only[exec,jz,OC,FZ]at h;simp only[codeOk]at s;have K:=I m A s (fun k b u r x=>D (k+1) b (by simp[cT,u]) r x);split at h
   ·cases h
   rename_i V al W h1;obtain⟨y,z⟩:=K _ _ _ _ _ h1;cases V with
   |exit i=>
    simp only at h;split at h
    ·rename_i u;have hi:i=id:=by simpa using u
     simp only[aB,aN]at h;obtain⟨rfl,rfl,rfl⟩:=h;refine⟨y,fun ok β a w d e Q f=>EN (z ok β a w d e _ fun g w' o p q l=>?_)⟩
     show Exit.inBlock id Q (.exit i) g w';simp only[Exit.inBlock,hi,gT];exact f g w' o p q l
    ·rename_i u;have hi:i≠id:=by intro aw;subst aw;simp at u
     simp only[aB,aN]at h;obtain⟨rfl,rfl,rfl⟩:=h;refine⟨y,fun ok β a w d e Q f=>EN (z ok β a w d e _ fun g w' o p q l=>?_)⟩
     show Exit.inBlock id Q (.exit i) g w';simp only[Exit.inBlock,hi,ei];exact f g w' o p q l
   |normal=>
    simp only[aB,aN]at h;obtain⟨rfl,rfl,rfl⟩:=h;exact⟨y,fun ok β a w d e Q f=>EN (z ok β a w d e _ fun g w' o p q l=>f g w' o p q l)⟩
   |ret=>
    simp only[aB,aN]at h;obtain⟨rfl,rfl,rfl⟩:=h;exact⟨y,fun ok β a w d e Q f=>EN (z ok β a w d e _ fun g w' o p q l=>f g w' o p q l)⟩
  |loop A=>
   cases x:(bX A).bind E.lo with
   |some r=>
    simp only[exec,jz,IA,x]at h;exact D 1 A (by simp[cT]) r x R S ag T S' h
   |none=>
    have J:codeOk C.P bC E.dyn m A=true:=by simpa only[codeOk]using s
    obtain⟨L,X⟩:=aaA (G:=G) (bC:=bC) x (n+1) (fun k ax=>ae k ax m A J (fun j b u r x=>D (j+1) b (by simp[cT,u]) r x)) R S ag T S' h;exact⟨L,fun ok β a w d e Q f=>OG (X ok β a w d e Q f)⟩
  |_=>simp[exec,jz]at h
end
end
section
variable [aR][aF]
open Region
variable{t:TypeId}{a R:af}{S Q:ai}
section
variable{P:Program}{G:Nat→Option (List af)}{β:aE}{w:World}
def aaB{y:Value}(h:oF P G t a S=some (R,Q))(z:aC β a y)(A:aL G β S.H w):
 Q.ok→∃p v,y=.pointer (some p)∧aC β R v∧∀d,er w d→(loadVar t p).aG P d=.ok v d:=by
 unfold oF at h;cases f:nk P t with
 |none=>simp[f]at h|some b=>
  cases b with
  |true=>
   simp only[f]at h;cases m:ej P t with
   |none=>simp[m]at h|some n=>
    simp only[m]at h;cases o:rR G a n S with
    |none=>simp[o]at h|some r=>
     obtain⟨l,J⟩:=r;simp only[o,aB,aN]at h;obtain⟨rfl,rfl⟩:=h;intro ok;obtain⟨p,vs,rfl,B,D,i,e⟩:=(PD A z o).2 ok;have g:vs.length=n:=by rw[←B.1,D]
     have:=Fx P w p vs i (by rw[g];exact e);rw[g]at this;refine⟨p,.agg ⟨vs⟩,rfl,aC.z4 B,fun d s=>?_⟩;have:=Fx P d p vs (fun j v k=>by
      have h1:=i j v k;have u:=e j (by rw[←g];exact(dX.1 k).1);generalize p.add j=q at h1 u⊢;obtain⟨c,E,x⟩:=q;have:x=none:=u.1;subst this;exact s.cell u h1) (by rw[g];exact e)
     rw[g]at this;simp[loadVar,vu f d,g9 m d,this]
  |false=>
   simp only[f]at h;obtain⟨K,F⟩:=PC A z h;intro ok;obtain⟨p,v,rfl,i,k,e⟩:=F ok;refine⟨p,v,rfl,k,fun d s=>?_⟩;have I:d.cell? p=some v:=by
    obtain⟨c,E,x⟩:=p;have:x=none:=e.1;subst this;exact s.cell e i
   simp[loadVar,vu f d,B7 P d I e]
def aaC(h:oF P G t a S=some (R,Q)):Pure S Q:=
 vA (f:=oF P G t a) (fun T cs c _=>Qc P G t a (fun b _=>by rw[c])) h
def CR(b:Array Value):ResultVar→Sem Value|.tmp t=>pure (b.getD t undef)|.cell a t=>do loadVar t (←asAddr (b.getD a undef))
def JO(fn:Func)(b:Array Value):results fn b=(fn.results.mapM (CR b) >>= fun vs=>pure (if h:vs.size=1 then vs[0]else .tuple vs)):=by
 unfold results;congr 1
end
section
variable{C:eK}[lY C]{G:Nat→Option (List af)}
def QJ(q:C.dB=G){aj bC:Nat}{m:aI}:∀(c:List ResultVar) (S Q:ai) (vs:List af),xq C aj m S c=some (vs,Q)→
 Pure S Q∧(Q.ok→∀β a w,cL aj bC β m a→aL G β S.H w→∃us,aJ β vs us∧∀b,er w b→(c.mapM (CR a.tmps)).aG C.P b=.ok us b):=by
 intro c
 induction c with
 |nil=>
  intro S Q vs h;simp only[xq,aB,aN]at h;obtain⟨rfl,rfl⟩:=h;exact⟨Pure.refl _,fun _ β a w _ _=>⟨[],aJ.nil β,fun b _=>by simp[Sem.aG,pure]⟩⟩
 |cons r c n=>
  intro S Q vs h;simp only[xq]at h;cases r with
  |tmp t=>
   dsimp only at h;split at h
   ·cases h
   rename_i us s i;simp only[aB,aN]at h;obtain⟨rfl,rfl⟩:=h;obtain⟨e,j⟩:=n _ _ _ i;refine⟨e,fun ok β a w d f=>?_⟩;obtain⟨k,h2,h1⟩:=j ok β a w d f;exact⟨_::k,aJ.cons (d.val t) h2,fun b g=>by simp[Wu,CR,h1 b g]⟩
  |cell ad t=>
   dsimp only at h;split at h
   ·cases h
   rename_i v A l;split at h
   ·cases h
   rename_i us s i;simp only[aB,aN]at h;obtain⟨rfl,rfl⟩:=h;obtain⟨e,j⟩:=n _ _ _ i;have o:=aaC l;refine⟨o.trans e,fun ok β a w d f=>?_⟩;obtain⟨k,h2,h1⟩:=j ok β a w d (by rw[o.H];exact f);rw[q]at l;obtain⟨p,u,x,y,z⟩:=aaB l (d.val ad) f (e.ok ok);exact⟨u::k,aJ.cons y h2,fun b g=>by simp[Wu,CR,x,asAddr,z b g,h1 b g]⟩
def QK{β:aE}{vs:List af}{us:List Value}(h:aJ β vs us):aC β (zF vs) (if h:(⟨us⟩:Array Value).size=1 then(⟨us⟩:Array Value)[0]else .tuple ⟨us⟩):=by
 have b:=h.1;unfold zF;split
 ·rename_i v;obtain⟨u,e,rfl,h1,h2⟩:=h.cons_inv;have:=h2.r9;subst this;simpa using h1
 ·rename_i c;have:¬us.length=1:=by
   intro d;rw[d]at b
   match vs,b with
   |[v],_=>exact c v rfl
  rw[dif_neg (by simpa using this)];exact aC.I4 h
def qM(C:eK)(f:FuncId):Bool:=
 match C.P.funcs[f]? with
 |none=>false|some fn=>
  match fn.body with
  |none=>false|some c=>
   match fn.name== "runtime.NumGoroutine" with
   |true=>false|false=>codeOk C.P fn.ntmps (C.dyn f) 100000 c
def c6(C:eK)(G:Nat→Option (List af)):Prop:=∀f fn c,C.P.funcs[f]? =some fn→fn.body=some c→∀k,∀b∈cT k c,∀d,(bX b).bind (C.loop f)=some d→dc C.P G (C.aj f) fn.ntmps (.loop b) d
def QL(B:C.dB=G){call:gf}(O:fX C.P G call)(T:oV C.P C.gv)(U:C.P.follows .mixedOrders=true)(V:∀f,C.scope f=true→qM C f=true)(W:∀f,C.scope f=true→aF.plain f)(X:c6 C G)(x:Nat):
 fX C.P G (B6 C x call):=by
 intro f args S v Q h;unfold B6 at h;split at h
 ·cases h
 rename_i fn p;split at h
 ·cases h
 rename_i c q;split at h
 ·cases h
 rename_i D;simp only[dH]at D;obtain⟨F,Y⟩:=D;have l:=V f F;unfold qM at l;simp only[p,q]at l;split at l
 ·cases l
 rename_i Z;have aa:=F0 (C:=C) (G:=G) (bC:=fn.ntmps) B (E:=⟨call,C.aj f,C.eF f,C.dyn f,C.loop f⟩) O T U x 100000 c l (fun k b I ab ad=>X f fn c p q k b I ab ad);have fin:∀(r:dJ) e g,(r=.normal∨r=.ret)→exec C x c ⟨call,C.aj f,C.eF f,C.dyn f,C.loop f⟩ ⟨args++List.replicate (C.aj f-args.length) .aa,[]⟩ S=some (r,e,g)→
  (match xq C (C.aj f) e g fn.results.toList with|some (vs,S)=>some (zF vs,S)|none=>none)=some (v,Q)→
  Ext S Q∧(Q.ok→∀β w vs,aJ β args vs→aL G β S.H w→(∃fn,C.P.funcs[f]? =some fn∧(fn.name== "runtime.NumGoroutine")=false∧fn.body.isSome=true)∧
   jU C.P f ⟨vs⟩ w fun n w'=>∃u d,n=.returned u∧aC d v u∧aL G d Q.H w'∧bM β S.H w d Q.H w'):=by
  intro r e g ae h1 h2;obtain⟨ag,ah⟩:=aa _ _ _ _ _ h1;split at h2
  case h_2=>cases h2
  rename_i vs J ak;simp only[aB,aN]at h2;obtain⟨rfl,rfl⟩:=h2;obtain⟨s,al⟩:=QJ (bC:=fn.ntmps) B _ _ _ _ ak;refine⟨ag.trans s.ext,fun ok β w us y am=>⟨⟨fn,p,Z,by simp[q]⟩,ON (W f F) p q ?_⟩⟩;have au:us.length≤fn.ntmps:=by rw[←y.1];simpa using Y
  refine ah (s.ok ok) β _ w ⟨fun t=>?_,?_,rfl⟩ am _ fun z w' d K L an=>?_
  ·simp only[aI.get];cases I:Nat.blt t (C.aj f)with
   |false=>exact .aa _|true=>
    simp only[cg];rcases cv t args.length with i|i
    ·have M:t<us.length:=by rw[←y.1];exact i
     rw[iE i,bW i];simp only;have n:((⟨us⟩:Array Value)++Array.replicate (fn.ntmps-(⟨us⟩:Array Value).size) undef).getD t undef=us[t]:=by
      simp[gV,Oe,M]
     rw[n];exact y.2 t _ _ (bW i) (bW M)
    ·rw[ie i];split
     ·rename_i R j;rw[mz]at j;split at j
      ·injection j with j;subst j;exact .aa _
      ·cases j
     ·exact .aa _
  ·simp;omega
  ·obtain⟨A,ao,ap⟩:=al ok d z w' K L;have aq:∀o,er w' o→(results fn z.tmps).aG C.P o=.ok (if h:(⟨A⟩:Array Value).size=1 then(⟨A⟩:Array Value)[0]else .tuple ⟨A⟩) o:=by
    intro o ar;rw[JO,Oi (m:=Sem)];simp[ap o ar]
   have N:OM C.P fn (fun n w'=>∃u d,n=.returned u∧aC d (zF vs) u∧aL G d J.H w'∧bM β S.H w d J.H w') .normal z w':=
    ⟨K.defers,_,aq,_,d,rfl,QK ao,by rw[s.H];exact L,by rw[s.H];exact an⟩
   rcases ae with rfl|rfl
   ·exact N
   ·exact N
 split at h
 ·rename_i e g h1;exact fin .normal e g (.inl rfl) h1 h
 ·rename_i e g h1;exact fin .ret e g (.inr rfl) h1 h
 ·cases h
end
end
section
variable [aR][aF]
section
variable{C:eK}[lY C]{G:Nat→Option (List af)}
def aaD(C:eK)(G:Nat→Option (List af)):Prop:=∀f c,C.spec f=some c→∀args S v a,BR c args S=some (v,a)→Ext S a∧(a.ok→∀β w vs,aJ β args vs→aL G β S.H w→
 (∃fn,C.P.funcs[f]? =some fn∧(fn.name== "runtime.NumGoroutine")=false∧fn.body.isSome=true)∧
 jU C.P f ⟨vs⟩ w fun d w'=>∃u b,d=.returned u∧aC b v u∧aL G b a.H w'∧bM β S.H w b a.H w')
def F1(c:C.dB=G)(e:oV C.P C.gv)(g:C.P.follows .mixedOrders=true)(i:∀f,C.scope f=true→qM C f=true)(j:∀f,C.scope f=true→aF.plain f)(k:c6 C G)(l:aaD C G)(b:Nat):
 ∀d,fX C.P G (uY C d b):=by
 intro d
 induction d with
 |zero=>intro f args S v a h;simp[uY]at h|succ d m=>
  intro f args S v a h;simp only[uY]at h;split at h
  ·rename_i n o;exact l f n o args S v a h
  ·exact QL c m e g i j k b f args S v a h
def c6.none(h:∀f r,C.loop f r=none):c6 C G:=fun f fn c _ _ k b _ e a=>by
 cases d:bX b with
 |none=>rw[d]at a;cases a
 |some r=>rw[d]at a;simp[h]at a
end
end
section
variable [aR][aF]
variable{f:Nat→Nat}{d S:Data}{b:Nat}{P:af}{v:Value}{R:List af}{vs:List Value}{c:Nat}{Q:Loc}
def QM{b:Nat}:∀{rs:List Nat} {i k:Nat},qB b rs i=some k→i≤k∧rs[k-i]? =some b
 |[],_,_,h=>by simp[qB]at h|P::r,i,k,h=>by
  simp only[qB]at h;split at h
  ·rename_i a;have e:P=b:=by simpa using a
   injection h with h;subst h;subst e;simp
  ·obtain⟨h1,h2⟩:=QM h;refine⟨by omega,?_⟩;have:k-i=(k-(i+1))+1:=by omega
   rw[this];simpa using h2
def JP{rs:List Nat}{k:Nat}(h:qB b rs 0=some k):rs[k]? =some b:=by
 have:=(QM h).2;simpa using this
def JQ:∀{l:List Nat},BQ l=true→l.Nodup
 |[],_=>List.nodup_nil|P::r,h=>by
  simp only[BQ]at h;split at h
  ·cases h
  ·rename_i a;rw[WC];refine⟨fun e=>?_,JQ h⟩;rw[(Ah P r).2 e]at a;cases a
def vF(f:Nat→Nat):∀l:List af,lR f l=l.map (oH f)|[]=>by simp[lR]|v::r=>by simp[lR,vF f r]
def toL_get{rs:List Nat}:∀{l a:List af},toL rs l=some a→a.length=l.length∧∀(i:Nat) P e,l[i]? =some P→a[i]? =some e→toV rs P=some e
 |[],a,h=>by simp[toL]at h;subst h;exact⟨rfl,fun i P e g=>by simp at g⟩|v::r,a,h=>by
  simp only[toL]at h;split at h
  ·rename_i v' k;split at h
   ·rename_i n m;injection h with h;subst h;obtain⟨h1,h2⟩:=toL_get m;refine⟨by simp[h1],fun i P e g j=>?_⟩;cases i with
    |zero=>simp at g j;subst g j;exact k|succ i=>exact h2 i P e (by simpa using g) (by simpa using j)
   ·cases h
  ·cases h
section
variable{β T U:aE}{rs:List Nat}
def inner(β:aE)(rs:List Nat):aE:=fun i=>match rs[i]? with|some b=>β b|none=>none
def lB{i:Nat}(h:rs[i]? =some b):inner β rs i=β b:=by simp[inner,h]
def toV_rel(m:aC β P v):∀{j:af},toV rs P=some j→aC (inner β rs) j v:=by
 induction m with
 |aa v=>intro j h;simp only[toV,aB]at h;subst h;exact .aa v|bool b=>intro j h;simp only[toV,aB]at h;subst h;exact .bool b|str z=>intro j h;simp only[toV,aB]at h;subst h;exact .str z|mA=>intro j h;simp only[toV,aB]at h;subst h;exact .mA|cI=>intro j h;simp only[toV,aB]at h;subst h;exact .cI|fC=>intro j h;simp only[toV,aB]at h;subst h;exact .fC|mB=>intro j h;simp only[toV,aB]at h;subst h;exact .mB|exact u=>intro j h;simp only[toV,aB]at h;subst h;exact .exact u|num n=>intro j h;simp only[toV,aB]at h;subst h;exact .num n|ptr b o Q B=>
  intro j h;simp only[toV,toR]at h;cases hi:qB b rs 0 with
  |none=>simp[hi]at h|some i=>
   simp only[hi,aB]at h;subst h;exact .ptr i o Q (by rw[lB (JP hi)];exact B)
 |eE g o=>
  intro j h;simp only[toV,toR,aB]at h;subst h;exact .eE g o
 |gs g o l s p=>
  intro j h;simp only[toV,toR,aB]at h;subst h;exact .gs g o l s p
 |sm b l z a s h1 h3=>
  intro j h;simp only[toV,toR]at h;cases hi:qB b rs 0 with
  |none=>simp[hi]at h|some i=>
   simp only[hi,aB]at h;subst h;refine .sm i l z a s h1 ?_;rcases h3 with h3|⟨Q,A,h3⟩
   ·exact .inl h3
   ·exact .inr ⟨Q,by rw[lB (JP hi)];exact A,h3⟩
 |sl b o l C a s h1 h2 h3=>
  intro j h;simp only[toV,toR]at h;cases hi:qB b rs 0 with
  |none=>simp[hi]at h|some i=>
   simp only[hi,aB]at h;subst h;refine .sl i o l C a s h1 h2 ?_;rcases h3 with h3|⟨Q,A,h3⟩
   ·exact .inl h3
   ·exact .inr ⟨Q,by rw[lB (JP hi)];exact A,h3⟩
 |agg R vs p h q=>
  intro j e;simp only[toV]at e;split at e
  ·rename_i x y;injection e with e;subst e;obtain⟨h1,h2⟩:=toL_get y;refine .agg x vs (h1.trans p) fun i r v k m=>?_;have hi:i<R.length:=by
    rcases cv i R.length with h|h
    ·exact h
    ·rw[di (by omega)]at k;cases k
   exact q i _ v (bW hi) m (h2 i _ r (bW hi) k)
  ·cases e
 |bx R vs p h q=>
  intro j e;simp only[toV]at e;split at e
  ·rename_i x y;injection e with e;subst e;obtain⟨h1,h2⟩:=toL_get y;refine .bx x vs (h1.trans p) fun i r v k m=>?_;have hi:i<R.length:=by
    rcases cv i R.length with h|h
    ·exact h
    ·rw[di (by omega)]at k;cases k
   exact q i _ v (bW hi) m (h2 i _ r (bW hi) k)
  ·cases e
 |ig t P v h q=>
  intro j e;simp only[toV,toL]at e;cases k:toV rs P with
  |none=>simp[k]at e|some r=>
   simp only[k,aB]at e;subst e;exact .ig t r v (q k)
 |fn f n R first captured D p h q=>
  intro j e;simp only[toV]at e;split at e
  ·rename_i x y;injection e with e;subst e;obtain⟨h1,h2⟩:=toL_get y;refine .fn f n x first captured D (h1.trans p) fun i r v k m=>?_
   have hi:i<R.length:=by
    rcases cv i R.length with h|h
    ·exact h
    ·rw[di (by omega)]at k;cases k
   exact q i _ v (bW hi) m (h2 i _ r (bW hi) k)
  ·cases e
def toL_rel{e:List af}(h:aJ β R vs)(g:toL rs R=some e):aJ (inner β rs) e vs:=by
 obtain⟨h1,h2⟩:=toL_get g;refine⟨h1.trans h.1,fun i j v a k=>?_⟩;have hi:i<R.length:=by
  rcases cv i R.length with h|h
  ·exact h
  ·rw[di (by omega)]at a;cases a
 exact toV_rel (h.2 i _ v (bW hi) k) (h2 i _ j (bW hi) a)
def vG(r:∀i Q,T i=some Q→U (f i)=some Q)(j:aC T P v):aC U (oH f P) v:=by
 induction j with
 |aa v=>exact .aa v|bool b=>exact .bool b|str s=>exact .str s|mA=>exact .mA|cI=>exact .cI|fC=>exact .fC|mB=>exact .mB|exact u=>exact .exact u|num n=>exact .num n|ptr b k Q z=>exact .ptr (f b) k Q (r b Q z)|eE g k=>exact .eE g k|gs g k l p m=>exact .gs g k l p m|sm b l s a p h1 h3=>
  refine .sm (f b) l s a p h1 ?_;rcases h3 with h3|⟨Q,x,h3⟩
  ·exact .inl h3
  ·exact .inr ⟨Q,r b Q x,h3⟩
 |sl b k l A a p h1 h2 h3=>
  refine .sl (f b) k l A a p h1 h2 ?_;rcases h3 with h3|⟨Q,x,h3⟩
  ·exact .inl h3
  ·exact .inr ⟨Q,r b Q x,h3⟩
 |agg R vs m h o=>
  simp only[oH,vF];refine .agg _ vs (by simpa using m) fun i y v e j=>?_;rw[dY,bU]at e;obtain⟨P,q,rfl⟩:=e;exact o i P v q j
 |bx R vs m h o=>
  simp only[oH,vF];refine .bx _ vs (by simpa using m) fun i y v e j=>?_;rw[dY,bU]at e;obtain⟨P,q,rfl⟩:=e;exact o i P v q j
 |ig t P v h o=>simp only[oH,lR];exact .ig t _ v o|fn g n R first captured B m h o=>
  simp only[oH,vF];refine .fn g n _ first captured B (by simpa using m) fun i y v e j=>?_
  rw[dY,bU]at e;obtain⟨P,q,rfl⟩:=e;exact o i P v q j
def QN(e:∀i Q,T i=some Q→U (f i)=some Q)(h:aJ T R vs):aJ U (lR f R) vs:=by
 rw[vF];refine⟨by simpa using h.1,fun i k v a g=>?_⟩;rw[dY,bU]at a;obtain⟨P,j,rfl⟩:=a;exact vG e (h.2 i P v j g)
def toL_pre{rs:List Nat}{t a:List af}(h:toL rs t=some a):∀l:List Value,toL rs (l.map af.exact++t)=some (l.map af.exact++a)
 |[]=>h|v::l=>by
  show toL rs (af.exact v::(l.map af.exact++t))=some (af.exact v::(l.map af.exact++a));rw[toL,toL_pre h l];rfl
def QO(f:Nat→Nat)(t:List af):∀l:List Value,lR f (l.map af.exact++t)=l.map af.exact++lR f t
 |[]=>rfl|v::l=>by
  show lR f (af.exact v::(l.map af.exact++t))=af.exact v::(l.map af.exact++lR f t);rw[lR,QO f t l];rfl
def toD_spec(h:toD rs d=some S):S.len=d.len∧(∀i g,S.at i=some g→∃P,d.at i=some P∧toV rs P=some g)∧(∀{vs:List Value},aJ β d.list vs→aJ (inner β rs) S.list vs):=by
 cases d with
 |gen l=>
  simp only[toD]at h;split at h
  ·rename_i y o;injection h with h;subst h;obtain⟨h1,h2⟩:=toL_get o;refine⟨h1,fun i g a=>?_,fun j=>toL_rel j o⟩;have a:y[i]? =some g:=a;have hi:i<l.length:=by
    rcases cv i l.length with h|h
    ·exact h
    ·rw[di (by omega)]at a;cases a
   exact⟨l[i],bW hi,h2 i _ g (bW hi) a⟩
  ·cases h
 |fc u t=>
  simp only[toD]at h;split at h
  ·rename_i A B;injection h with h;subst h;have o:=toL_pre B u;obtain⟨h1,h2⟩:=toL_get o;refine⟨by simpa[Data.len]using h1,fun i g a=>?_,fun j=>toL_rel j o⟩;have a:(u.map af.exact++A)[i]? =some g:=a;have hi:i<(u.map af.exact++t).length:=by
    rcases cv i (u.map af.exact++t).length with h|h
    ·exact h
    ·rw[di (by omega)]at a;cases a
   exact⟨(u.map af.exact++t)[i],bW hi,h2 i _ g (bW hi) a⟩
  ·cases h
 |ag l=>
  simp only[toD,aB]at h;subst h;refine⟨rfl,fun i g a=>⟨g,a,?_⟩,fun j=>⟨j.1,fun i k v e m=>?_⟩⟩
  ·simp only[Data.at,bU]at a;obtain⟨k,_,rfl⟩:=a;rfl
  ·have:=j.2 i k v e m;simp only[Data.list,dY,bU]at e;obtain⟨z,_,rfl⟩:=e;exact toV_rel (rs:=rs) this rfl
 |eY l=>
  simp only[toD,aB]at h;subst h;refine⟨rfl,fun i g a=>⟨g,a,?_⟩,fun j=>⟨j.1,fun i k v e m=>?_⟩⟩
  ·simp only[Data.at,bU]at a;obtain⟨k,_,rfl⟩:=a;rfl
  ·have:=j.2 i k v e m;simp only[Data.list,dY,bU]at e;obtain⟨z,_,rfl⟩:=e;exact toV_rel (rs:=rs) this rfl
 |bt l=>
  simp only[toD,aB]at h;subst h;refine⟨rfl,fun i g a=>⟨g,a,?_⟩,fun j=>⟨j.1,fun i k v e m=>?_⟩⟩
  ·simp only[Data.at,bU]at a;obtain⟨k,_,rfl⟩:=a;rfl
  ·have:=j.2 i k v e m;simp only[Data.list,dY,bU]at e;obtain⟨z,_,rfl⟩:=e;exact toV_rel (rs:=rs) this rfl
 |lim f l=>
  simp only[toD,aB]at h;subst h;refine⟨rfl,fun i g a=>⟨g,a,?_⟩,fun j=>⟨j.1,fun i k v e m=>?_⟩⟩
  ·simp only[Data.at]at a;split at a
   case isFalse=>cases a
   simp only[bU]at a;obtain⟨k,_,rfl⟩:=a;rfl
  ·have:=j.2 i k v e m;simp only[Data.list,dY,bU]at e;obtain⟨z,_,rfl⟩:=e;exact toV_rel (rs:=rs) this rfl
 |spot n q P=>
  simp only[toD]at h;split at h
  case h_2=>cases h
  rename_i g s;injection h with h;subst h;refine⟨rfl,fun i k e=>?_,fun j=>⟨by simpa[Data.list]using j.1,fun i k v e m=>?_⟩⟩
  ·have p:i<n:=by
    have:=(dX.1 (show((List.replicate n (af.atom .aa)).set q g)[i]? =some k from e)).1;simpa using this
   by_cases r:i=q
   ·subst r;have x:((List.replicate n (af.atom .aa)).set i g)[i]? =some k:=e;simp[p]at x;subst x;exact⟨P,by simp[Data.at,p],s⟩
   ·rcases I6 e with rfl|⟨rfl,_⟩
    ·exact⟨.atom .aa,by simp[Data.at,p,Bn,fB r],rfl⟩
    ·exact absurd rfl r
  ·have p:i<n:=by
    have:=(dX.1 (show((List.replicate n (af.atom .aa)).set q g)[i]? =some k from e)).1;simpa using this
   rcases I6 e with rfl|⟨rfl,rfl⟩
   ·exact .aa v
   ·exact toV_rel (j.2 i P v (by simp[Data.list,p]) m) s
def QS(j:∀i Q,T i=some Q→U (f i)=some Q)(d:Data):(d.iH f).len=d.len∧∀{vs:List Value},aJ T d.list vs→aJ U (d.iH f).list vs:=by
 cases d with
 |gen l=>exact⟨by simp[Data.iH,Data.len,vF],fun a=>QN j a⟩|fc l t=>
  refine⟨by simp[Data.iH,Data.len,vF],fun a=>?_⟩;have:=QN j a;simp only[Data.list]at this;rw[QO]at this;exact this
 |ag l=>
  refine⟨rfl,fun a=>⟨a.1,fun i g v e h=>?_⟩⟩;have:=a.2 i g v e h;simp only[Data.iH,Data.list,dY,bU]at e;obtain⟨z,_,rfl⟩:=e;exact vG j this
 |eY l=>
  refine⟨rfl,fun a=>⟨a.1,fun i g v e h=>?_⟩⟩;have:=a.2 i g v e h;simp only[Data.iH,Data.list,dY,bU]at e;obtain⟨z,_,rfl⟩:=e;exact vG j this
 |bt l=>
  refine⟨rfl,fun a=>⟨a.1,fun i g v e h=>?_⟩⟩;have:=a.2 i g v e h;simp only[Data.iH,Data.list,dY,bU]at e;obtain⟨z,_,rfl⟩:=e;exact vG j this
 |lim _ l=>
  refine⟨rfl,fun a=>⟨a.1,fun i g v e h=>?_⟩⟩;have:=a.2 i g v e h;simp only[Data.iH,Data.list,dY,bU]at e;obtain⟨z,_,rfl⟩:=e;exact vG j this
 |spot n k P=>
  refine⟨rfl,fun a=>⟨by simpa[Data.iH,Data.list]using a.1,fun i g v e h=>?_⟩⟩;have m:i<n:=by
   have:=(dX.1 (show((List.replicate n (af.atom .aa)).set k (oH f P))[i]? =some g from e)).1;simpa using this
  rcases I6 e with rfl|⟨rfl,rfl⟩
  ·exact .aa v
  ·exact vG j (a.2 i P v (by simp[Data.list,m]) h)
def toD_hold(h:toD rs d=some S)(a:fH d c):fH S c:=by
 cases d<;>simp only[toD]at h
 case lim f l=>injection h with h;subst h;exact a
 all_goals first|(injection h with h;subst h;exact a)|(split at h;·(injection h with h;subst h;exact a)
                                                       ·cases h)
def aaE(a:fH d c):fH (d.iH f) c:=by cases d<;>exact a
variable{w:World}
def g8.to{m:Mode}(h:g8 β ⟨d,m⟩ Q w)(j:toD rs d=some S):g8 (inner β rs) ⟨S,m⟩ Q w:=by
 obtain⟨h1,h2,h3⟩:=toD_spec (β:=β) j;cases m with
 |bn=>trivial|ro=>
  obtain⟨a,e,g⟩:=h;refine⟨a,by rw[h1];exact e,fun i k l=>?_⟩;obtain⟨P,n,o⟩:=h2 i k l;obtain⟨v,p,q,r⟩:=g i P n;exact⟨v,p,toV_rel q o,r⟩
 |own=>
  obtain⟨a,s,vs,t,bu,e,u,g,bf,x⟩:=h;exact⟨a,toD_hold j s,vs,t,bu,e,u,g,by rw[h1];exact bf,by rw[h1];exact h3 x⟩
def g8.iH(a:∀i Q,T i=some Q→U (f i)=some Q)(h:g8 T ⟨d,.own⟩ Q w):g8 U ⟨d.iH f,.own⟩ Q w:=by
 obtain⟨h1,h2⟩:=QS a d;obtain⟨e,g,vs,t,bu,j,k,l,bf,m⟩:=h;exact⟨e,aaE g,vs,t,bu,j,k,l,by rw[h1];exact bf,by rw[h1];exact h2 m⟩
end
end
section
variable [aR][aF]
def JR{g:List ah}{j:List Nat}:∀{l:List Nat} {c:List ah},xl g j l=some c→c.length=l.length∧
 ∀(i:Nat) b a,l[i]? =some b→c[i]? =some a→∃d,g[b]? =some ⟨d,a.mode⟩∧toD j d=some a.data
 |[],c,h=>by simp[xl]at h;subst h;exact⟨rfl,fun i b a e=>by simp at e⟩|b::r,c,h=>by
  simp only[xl]at h;split at h
  ·cases h
  rename_i d m k;split at h
  ·cases h
  rename_i q n;split at h
  ·rename_i s o;cases h;obtain⟨h1,h2⟩:=JR o;refine⟨by simp[h1],fun i p a e f=>?_⟩;cases i with
   |zero=>simp at e f;subst e f;exact⟨d,by rw[←cg];exact k,n⟩|succ i=>exact h2 i p a (by simpa using e) (by simpa using f)
  ·cases h
def QT(f:Nat→Nat):∀(a:List ah) (i:Nat),(uT f a)[i]? =(a[i]?).map fun k=>⟨k.data.iH f,k.mode⟩|[],i=>by simp[uT]|⟨d,m⟩::a,0=>by simp[uT]|⟨d,m⟩::a,i+1=>by simp[uT,QT f a i]
def QU(f:Nat→Nat):∀a:List ah,(uT f a).length=a.length|[]=>rfl|⟨d,m⟩::a=>by simp[uT,QU f a]
def aaF(f:Nat→Nat):∀(c:List Nat) (d a j:List ah),c.Nodup→(∀b∈c,b<a.length)→uU f c d a=some j→
 c.length≤d.length∧j.length=a.length+(d.length-c.length)∧
 (∀b:Nat,b<a.length→(∀i:Nat,c[i]? =some b→(ja a b).mode≠.own)→j[b]? =a[b]?)∧
 (∀(i:Nat) b k,c[i]? =some b→d[i]? =some k→(ja a b).mode=.own→j[b]? =some ⟨k.data.iH f,k.mode⟩)∧
 (∀i:Nat,j[a.length+i]? =(d[c.length+i]?).map fun k=>⟨k.data.iH f,k.mode⟩):=by
 intro c
 induction c with
 |nil=>
  intro d a j _ _ h;simp only[uU,aB]at h;subst h;refine⟨by simp,by simp[QU],fun b g _=>iE g,fun i b k g=>by simp at g,fun i=>?_⟩;rw[ie (by omega),QT];simp
 |cons e c z=>
  intro d a j n w h;rw[WC]at n;cases d with
  |nil=>simp[uU]at h|cons A d=>
   obtain⟨p,q⟩:=A;have B:e<a.length:=w e (lO ..);simp only[uU]at h;have main:∀m:List ah,m.length=a.length→(∀b:Nat,b≠e→m[b]? =a[b]?)→((ja a e).mode=.own→m[e]? =some ⟨p.iH f,q⟩)→((ja a e).mode≠.own→m[e]? =a[e]?)→uU f c d m=some j→
    c.length+1≤d.length+1∧j.length=a.length+(d.length+1-(c.length+1))∧
    (∀b:Nat,b<a.length→(∀i:Nat,(e::c)[i]? =some b→(ja a b).mode≠.own)→j[b]? =a[b]?)∧
    (∀(i:Nat) b k,(e::c)[i]? =some b→(⟨p,q⟩::d)[i]? =some k→(ja a b).mode=.own→j[b]? =some ⟨k.data.iH f,k.mode⟩)∧
    (∀i:Nat,j[a.length+i]? =((⟨p,q⟩::d)[c.length+1+i]?).map fun k=>⟨k.data.iH f,k.mode⟩):=by
    intro m s h1 h2 D h3;have x:∀b,b≠e→ja m b=ja a b:=by
     intro b g;unfold ja;rw[cg,cg,h1 b g]
    obtain⟨I,E,t,bf,F⟩:=z d m j n.2 (fun b g=>by rw[s];exact w b (m9 _ g)) h3;refine⟨by omega,by rw[E,s];omega,fun b g hi=>?_,fun i b k g u r=>?_,fun i=>?_⟩
    ·by_cases l:b=e
     ·subst l;have H:=hi 0 rfl;rw[t b (by omega) (fun i o=>absurd (rH o) n.1),D H]
     ·rw[t b (by omega) (fun i o=>by rw[x b l];exact hi (i+1) (by simpa using o)),h1 b l]
    ·cases i with
     |zero=>
      simp at g u;subst g u;rw[t e (by omega) (fun i o=>absurd (rH o) n.1),h2 r]
     |succ i=>
      have y:c[i]? =some b:=by simpa using g
      have l:b≠e:=by intro l;subst l;exact n.1 (rH y)
      exact bf i b k y (by simpa using u) (by rw[x b l];exact r)
    ·have:=F i;rw[s]at this;rw[this];have l:c.length+1+i=(c.length+i)+1:=by omega
     rw[l,rM]
   split at h
   ·rename_i v;exact main (fe ⟨p.iH f,q⟩ e a) (by rw[iO,lN]) (fun b g=>by rw[iO,mw (fB g)]) (fun _=>by rw[iO,pL B]) (fun n=>absurd v n) h
   ·rename_i v;exact main a rfl (fun b _=>rfl) (fun r=>absurd r v) (fun _=>rfl) h
def JS(d:List ah):∀(c:List Nat) (l:Nat),zy d c l≤l∧∀b∈c,(ja d b).mode=.own→zy d c l≤b
 |[],l=>⟨aX _,fun b a=>by cases a⟩
 |f::c,l=>by
  simp only[zy];split
  ·obtain⟨h1,h2⟩:=JS d c (Nat.min l f);refine⟨gb h1 (Br _ _),fun b a e=>?_⟩;rcases jN.1 a with rfl|a
   ·exact gb h1 (Bs _ _)
   ·exact h2 b a e
  ·rename_i g;obtain⟨h1,h2⟩:=JS d c l;refine⟨h1,fun b a e=>?_⟩;rcases jN.1 a with rfl|a
   ·exact absurd e (by simpa using g)
   ·exact h2 b a e
section
variable{C:eK}{G:Nat→Option (List af)}
def dy(P:Program)(G:Nat→Option (List af))(f:FuncId)(d:Spec):Prop:=∀args a e r,d args a e=some r→
 (∀(i:Nat) k,r.H[i]? =some k→k.mode=.ro→∃c,a[i]? =some c∧c.mode=.ro)∧((∀g∈r.cond,g=true)→∀β w vs,aJ β args vs→aL G β a w→
  (∃fn,P.funcs[f]? =some fn∧(fn.name== "runtime.NumGoroutine")=false∧fn.body.isSome=true)∧
  jU P f ⟨vs⟩ w fun h w'=>∃u b,h=.returned u∧aC b r.v u∧aL G b r.H w'∧bM β a w b r.H w')
def CU{P:Program}{f:FuncId}{aD:Spec}(aV:dy P G f aD):∀args S v W,BR aD args S=some (v,W)→Ext S W∧(W.ok→∀β w vs,aJ β args vs→aL G β S.H w→
 (∃fn,P.funcs[f]? =some fn∧(fn.name== "runtime.NumGoroutine")=false∧fn.body.isSome=true)∧
 jU P f ⟨vs⟩ w fun E w'=>∃u x,E=.returned u∧aC x v u∧aL G x W.H w'∧bM β S.H w x W.H w'):=by
 intro args S v W h;unfold BR at h;simp only at h;generalize Ix S.H 100 0 (uS args [])=e at h;split at h
 ·cases h
 rename_i ao;have ao:=JQ ao;split at h
 ·cases h
 rename_i aW aX;split at h
 ·cases h
 rename_i s av;split at h
 ·cases h
 rename_i r aY;split at h
 ·cases h
 rename_i aZ a0;simp only[aB,aN]at h;obtain⟨rfl,rfl⟩:=h;obtain⟨Q,aG⟩:=JR av;obtain⟨ag,a1⟩:=aV aW s S.dec r aY;have X:∀(i b:Nat),e[i]? =some b→∃d a,s[i]? =some a∧S.H[b]? =some ⟨d,a.mode⟩∧toD e d=some a.data:=by
  intro i b n;have hi:i<s.length:=by
   rw[Q];rcases cv i e.length with h|h
   ·exact h
   ·rw[di h]at n;cases n
  obtain⟨d,h1,h2⟩:=aG i b _ n (bW hi);exact⟨d,_,bW hi,h1,h2⟩
 have aH:∀b∈e,b<S.H.length:=by
  intro b n;obtain⟨i,hi⟩:=Of n;obtain⟨d,a,_,h2,_⟩:=X i b hi;rw[←cg]at h2;exact sj h2
 obtain⟨bk,ap,aw,a2,a3⟩:=aaF _ _ _ _ _ ao aH a0;have aI:∀(i b:Nat) a,e[i]? =some b→s[i]? =some a→(ja S.H b).mode=a.mode:=by
  intro i b a n l;obtain⟨d,aq,h1,h2,_⟩:=X i b n;rw[h1]at l;injection l with l;subst l;unfold ja;rw[cg,h2]
 have a4:∀(i j b:Nat),e[i]? =some b→e[j]? =some b→i=j:=by
  intro i j b hi A;have bl:i<e.length:=(dX.1 hi).1;have J:j<e.length:=(dX.1 A).1;exact(List.getElem_inj ao).1 (by rw[(dX.1 hi).2,(dX.1 A).2])
 have R:∀(b:Nat) k,aZ[b]? =some k→(∃(i:Nat) (p:ah),r.H[i]? =some p∧k=⟨p.data.iH (xm e S.H.length),p.mode⟩∧xm e S.H.length i=b∧((e[i]? =some b∧∃a,s[i]? =some a∧a.mode=.own)∨(e.length≤i∧b=S.H.length+(i-e.length))))∨
  (b<S.H.length∧S.H[b]? =some k∧∀(i:Nat) a,e[i]? =some b→s[i]? =some a→a.mode≠.own):=by
  intro b k l;rcases cv b S.H.length with n|n
  ·by_cases o:∃(i:Nat) (a:ah),e[i]? =some b∧s[i]? =some a∧a.mode=.own
   ·obtain⟨i,a,h1,h2,h3⟩:=o;left;have hi:i<r.H.length:=by
     have:=(dX.1 h1).1;omega
    have:=a2 i b _ h1 (bW hi) (by rw[aI i b a h1 h2];exact h3);rw[this]at l;injection l with l;refine⟨i,r.H[i],bW hi,l.symm,?_,.inl ⟨h1,a,h2,h3⟩⟩;unfold xm;rw[cg,h1]
   ·right;have B:∀(i:Nat) (a:ah),e[i]? =some b→s[i]? =some a→a.mode≠.own:=fun i a h1 h2 h3=>o ⟨i,a,h1,h2,h3⟩;refine⟨n,?_,B⟩;rw[←aw b n fun i hi=>?_]
    ·exact l
    ·obtain⟨d,a,h1,h2,_⟩:=X i b hi;rw[aI i b a hi h1];exact B i a hi h1
  ·left;have E:b=S.H.length+(b-S.H.length):=by omega
   rw[E,a3,bU]at l;obtain⟨p,h1,h2⟩:=l;refine⟨e.length+(b-S.H.length),p,h1,h2.symm,?_,.inr ⟨by omega,by omega⟩⟩;unfold xm;rw[cg,di (by omega)];simp only;omega
 have vH:∀(b i:Nat) p,r.H[i]? =some p→((e[i]? =some b∧∃a,s[i]? =some a∧a.mode=.own)∨(e.length≤i∧b=S.H.length+(i-e.length)))→p.mode≠.ro:=by
  intro b i p h1 h2 D;obtain⟨aq,Y,a5⟩:=ag i p h1 D;rcases h2 with⟨_,a,h3,h4⟩|⟨h3,_⟩
  ·rw[h3]at Y;injection Y with Y;subst Y;rw[a5]at h4;cases h4
  ·rw[di (by omega)]at Y;cases Y
 obtain⟨a6,a7⟩:=JS S.H e S.low;refine⟨⟨fun a8 ai ag=>a8 ai (aon _ ag),a6,by rw[ap];omega,fun b n a9=>?_,fun b k l D=>?_,fun b k l D=>?_⟩,fun ok β w vs ba K=>?_⟩
 ·rw[cg,cg];refine aw b n fun i hi o=>?_;have:=a7 b (rH hi) o;simp only at a9;omega
 ·simp only[cg]at l⊢;rw[aw b (by rw[←cg]at l;exact sj l) fun i hi o=>?_]
  ·exact l
  ·unfold ja at o;rw[cg,l]at o;simp only at o;rw[D]at o;cases o
 ·simp only[cg]at l⊢;rcases R b k l with⟨i,p,h1,rfl,_,h3⟩|⟨_,h2,_⟩
  ·exact absurd D (vH b i p h1 h3)
  ·exact h2
 have bb:∀ai∈r.cond,ai=true:=fun ai ag=>ok ai (WB _ ag);have av:aL G (inner β e) s w:=by
  have ar:∀(i:Nat) a,s[i]? =some a→∃b d,e[i]? =some b∧S.H[b]? =some ⟨d,a.mode⟩∧toD e d=some a.data:=by
   intro i a l;have hi:i<e.length:=by rw[←Q];exact(dX.1 l).1
   obtain⟨d,h1,h2⟩:=aG i _ a (bW hi) l;exact⟨_,d,bW hi,h1,h2⟩
  refine⟨fun i a l q=>?_,fun i j k a m F T l au o q g z=>?_,fun i m g=>?_,K.dB,fun i k m l o g=>?_⟩
  ·obtain⟨b,d,h1,h2,h3⟩:=ar i a l;rw[lB h1];obtain⟨bc,bm⟩:=a;rcases K.blk b _ h2 q with⟨m,g,Z⟩|⟨M,ax⟩
   ·exact .inl ⟨m,g,Z.to h3⟩
   ·exact .inr ⟨by rw[(toD_spec (β:=β) h3).1];exact M,ax⟩
  ·obtain⟨b,d,h1,h2,h3⟩:=ar i k l;obtain⟨t,bc,U,aj,I⟩:=ar j a au;rw[lB h1]at g;rw[lB U]at z;refine K.dO b t _ _ m F (fun E=>T ?_) h2 aj o q g z;subst E;exact a4 i j b h1 U
  ·unfold inner at g;split at g
   ·rename_i b n;rw[Q];exact(dX.1 n).1
   ·cases g
  ·obtain⟨b,d,h1,h2,h3⟩:=ar i k l;rw[lB h1]at g;exact K.apart b _ m h2 o g
 obtain⟨bd,V⟩:=a1 bb (inner β e) w vs (toL_rel ba aX) av;refine⟨bd,V.mono ?_⟩;rintro E w' ⟨u,aa,rfl,bf,ak,L⟩;let x:aE:=fun b=>if b<S.H.length then β b else aa (e.length+(b-S.H.length))
 have N:∀b,b<S.H.length→x b=β b:=fun b n=>by simp[x,n]
 have aK:∀(i b:Nat),e[i]? =some b→x b=aa i:=by
  intro i b hi;rw[N b (aH b (rH hi)),L.old i (by rw[Q];exact(dX.1 hi).1),lB hi]
 have aM:∀i,e.length≤i→x (S.H.length+(i-e.length))=aa i:=by
  intro i hi;have h1:¬(S.H.length+(i-e.length)<S.H.length):=by omega
  have h2:e.length+(S.H.length+(i-e.length)-S.H.length)=i:=by omega
  simp only[x,h1,ei,h2]
 have ay:∀i m,aa i=some m→x (xm e S.H.length i)=some m:=by
  intro i m g;unfold xm;rcases cv i e.length with hi|hi
  ·rw[cg,bW hi];rw[aK i _ (bW hi)];exact g
  ·rw[cg,di hi];rw[aM i hi];exact g
 have aO:aE.le β x:=fun b m g=>by rw[N b (K.fW b m g)];exact g
 have ab:∀b i,((e[i]? =some b∧∃a,s[i]? =some a∧a.mode=.own)∨(e.length≤i∧b=S.H.length+(i-e.length)))→x b=aa i:=by
  rintro b i (⟨h,_⟩|⟨h,rfl⟩)
  ·exact aK i b h
  ·exact aM i h
 have aP:∀(b:Nat) k m,S.H[b]? =some k→k.mode.alive→β b=some m→(∀(i:Nat) a,e[i]? =some b→s[i]? =some a→a.mode≠.own)→¬Own (inner β e) s m.c:=by
  rintro b k m l q g B ⟨j,az,al,A,ad,O,am⟩;have J:j<e.length:=by rw[←Q];exact(dX.1 A).1
  obtain⟨d,aq,y,M,_⟩:=X j _ (bW J);rw[A]at y;injection y with y;subst y;rw[lB (bW J)]at O;by_cases E:e[j]=b
  ·subst E;exact B j az (bW J) A ad
  ·exact K.dO e[j] b _ k al m E M l ad q O g am
 refine⟨u,x,rfl,vG ay bf,⟨fun b k l q=>?_,?_,fun b m g=>?_,ak.dB,fun b k m l o g=>?_⟩,⟨aO,by rw[ap];omega,L.os,L.tape,L.output,L.size,fun c V bg=>?_,fun c V ⟨b,k,m,l,o,g,aQ⟩=>?_,N⟩⟩
 ·rcases R b k l with⟨i,p,h1,rfl,_,h3⟩|⟨n,h2,B⟩
  ·obtain⟨bh,aS⟩:=p;have D:aS=.own:=by
    cases aS with
    |own=>rfl|ro=>exact absurd rfl (vH b i _ h1 h3)|bn=>exact absurd rfl q
   subst D;rw[ab b i h3];rcases ak.blk i _ h1 (eu rfl)with⟨m,g,Z⟩|⟨M,ax⟩
   ·exact .inl ⟨m,g,Z.iH ay⟩
   ·exact .inr ⟨by rw[(QS ay bh).1];exact M,ax⟩
  ·rw[N b n];rcases K.blk b k h2 q with⟨m,g,Z⟩|h
   ·exact .inl ⟨m,g,Z.mono aO L.size (L.kept _ (Z.lt q) (aP b k m h2 q g B))⟩
   ·exact .inr h
 ·
   have aT:∀(b t i:Nat) (k p:ah) (m F:Loc),b≠t→S.H[b]? =some k→k.mode.alive→β b=some m→(∀(i:Nat) a,e[i]? =some b→s[i]? =some a→a.mode≠.own)→
    r.H[i]? =some p→p.mode=.own→aa i=some F→m.c≠F.c:=by
    intro b t i k p m F T l q g B h1 o z V;exact aP b k m l q g B (L.own _ (K.lt l q g) ⟨i,p,F,h1,o,z,V.symm⟩)
   intro b t k a m F T l au o q g z;rcases R b k l with⟨i,p,h1,rfl,_,h3⟩|⟨n,h2,B⟩
   ·rw[ab b i h3]at g;rcases R t a au with⟨ae,an,U,rfl,_,I⟩|⟨aA,aj,aU⟩
    ·rw[ab t ae I]at z;refine ak.dO i ae p an m F (fun E=>T ?_) h1 U o q g z;subst E;rcases h3 with⟨h3,_⟩|⟨h3,bi⟩<;>rcases I with⟨I,_⟩|⟨I,bj⟩
     ·rw[h3]at I;injection I
     ·have:=(dX.1 h3).1;omega
     ·have:=(dX.1 I).1;omega
     ·rw[bi,bj]
    ·rw[N t aA]at z;exact(aT t b i a p F m (fB T) aj q z aU h1 o g).symm
   ·rw[N b n]at g;rcases R t a au with⟨ae,an,U,rfl,_,I⟩|⟨aA,aj,aU⟩
    ·rw[ab t ae I]at z;have D:an.mode=.own:=by
      cases D:an.mode with
      |own=>rfl|ro=>exact absurd D (vH t ae _ U I)|bn=>exact absurd D q
     exact aT b t ae k an m F T h2 (eu o) g B U D z
    ·rw[N t aA]at z;exact K.dO b t k a m F T h2 aj o q g z
 ·rcases cv b S.H.length with n|n
  ·rw[ap];omega
  ·have h1:¬(b<S.H.length):=by omega
   simp only[x,h1,ei]at g;have:=ak.fW _ m g;rw[ap];omega
 ·rcases R b k l with⟨i,p,h1,rfl,_,h3⟩|⟨n,h2,B⟩
  ·rw[ab b i h3]at g;exact ak.apart i p m h1 o g
  ·rw[N b n]at g;exact K.apart b k m h2 o g
 ·refine L.kept c V fun⟨j,az,al,A,ad,O,am⟩=>bg ?_;have J:j<e.length:=by rw[←Q];exact(dX.1 A).1
  obtain⟨d,aq,y,M,_⟩:=X j _ (bW J);rw[A]at y;injection y with y;subst y;rw[lB (bW J)]at O;exact⟨e[j],_,al,M,ad,O,am⟩
 ·rcases R b k l with⟨i,p,h1,rfl,_,h3⟩|⟨n,h2,B⟩
  ·rw[ab b i h3]at g;obtain⟨j,az,al,A,ad,O,am⟩:=L.own c V ⟨i,p,m,h1,o,g,aQ⟩;have J:j<e.length:=by rw[←Q];exact(dX.1 A).1
   obtain⟨d,aq,y,M,_⟩:=X j _ (bW J);rw[A]at y;injection y with y;subst y;rw[lB (bW J)]at O;exact⟨e[j],_,al,M,ad,O,am⟩
  ·rw[N b n]at g;exact⟨b,k,m,h2,o,g,aQ⟩
end
end
section
variable [aR][aF]
variable{d P:Data}{l:U 8}{Q:Loc}
def nF(d P:Data):Prop:=P.len=d.len∧(∀β vs,aJ β d.list vs→aJ β P.list vs)∧(P=d∨(d.full∧P.full))
def nF.refl(d:Data):nF d d:=⟨rfl,fun _ _ h=>h,.inl rfl⟩
def nF.hold(h:nF d P){c:Nat}(a:fH d c):fH P c:=by
 rcases h.2.2 with h|⟨h1,h2⟩
 ·rw[h];exact a
 ·exact fH.of (a.tD h1) h2
def aaG(h:d.j7=some l):d.full:=fun f l a=>by subst a;simp[Data.j7]at h
def aaH{l:U 32}(h:d.oC=some l):d.full:=fun f l a=>by subst a;simp[Data.oC]at h
def aaI{l:U 64}(h:d.oD=some l):d.full:=fun f l a=>by subst a;simp[Data.oD]at h
def aaJ{l:U 32}(h:d.oC=some l):nF d (.eY l):=⟨Fp h,fun β vs a=>Fr h a,.inr ⟨aaH h,fun f l b=>by cases b⟩⟩
def aaK(h:d.j7=some l):nF d (.ag l):=⟨Ct h,fun β vs a=>Cu h a,.inr ⟨aaG h,fun f l b=>by cases b⟩⟩
def aaL{l:U 64}(h:d.oD=some l):nF d (.bt l):=⟨Fq h,fun β vs a=>Fs h a,.inr ⟨aaI h,fun f l b=>by cases b⟩⟩
section
variable{G:Nat→Option (List af)}{β:aE}{w:World}{R S:List ah}
def je.less(h:je β d Q w)(f:nF d P):je β P Q w:=by
 rcases f.2.2 with n|⟨g,o⟩
 ·rw[n];exact h
 obtain⟨p,q,m⟩:=h;refine⟨p,by rw[f.1];exact q,?_⟩;have b:∃vs:List Value,aJ β d.list vs∧∀(i:Nat) v,vs[i]? =some v→w.cell? (at' Q.c (Q.base+i))=some v:=by
  refine⟨(List.range d.len).map fun i=>(w.cell? (at' Q.c (Q.base+i))).getD undef,⟨by simp[Data.jB],fun i e v a b=>?_⟩,fun i v b=>?_⟩
  ·rw[Data.qH g]at a;obtain⟨u,j,k,_⟩:=m i e a;have hi:i<d.len:=by
    rw[←Data.jB];rw[←Data.qH g]at a;rcases cv i d.list.length with h|h
    ·exact h
    ·rw[di h]at a;cases a
   simp[hi,j]at b;subst b;exact k
  ·rcases cv i d.len with hi|hi
   ·have a:∃e,d.at i=some e:=by
     rw[←Data.qH g];exact⟨d.list[i]'(by rw[Data.jB];exact hi),bW _⟩
    obtain⟨e,a⟩:=a;obtain⟨u,j,k,_⟩:=m i e a;simp[hi,j]at b;subst b;exact j
   ·simp[show¬i<d.len by omega]at b
 obtain⟨vs,h1,h2⟩:=b;intro i e a;have:=(f.2.1 β vs h1);rw[←Data.qH o]at a;obtain⟨v,b,k⟩:=this.get a;have hi:i<d.len:=by
  rw[←f.1,←Data.jB];exact(dX.1 a).1
 obtain⟨_,_,_,r⟩:=m i _ (by rw[←Data.qH g];exact bW (by rw[Data.jB];exact hi));exact⟨v,h2 i v b,k,r⟩
def g8.less{k b:ah}(h:g8 β k Q w)(c:b.mode=k.mode)(a:nF k.data b.data):g8 β b Q w:=by
 obtain⟨d,m⟩:=k;obtain⟨P,e⟩:=b;simp only at c a;subst c;cases e with
 |bn=>trivial|ro=>exact je.less h a|own=>
  obtain⟨f,g,vs,t,bu,i,j,n,bf,o⟩:=h;exact⟨f,a.hold g,vs,t,bu,i,j,n,by rw[a.1];exact bf,by rw[a.1];exact a.2.1 β _ o⟩
end
end
section
variable [aR][aF]
variable{P:af}{v:Value}{ps R T:List af}{U:List ah}{rs:Option (List Nat)}{Q:af}{V:List ah}{vs:List Value}{k S:ah}{cG:List ah}{β':aE}
def c7(p P:N):N:=
 match p with
 |.c _=>P|.s _=>.s P.v
def Al(p P:Option N):Option N:=
 match p with
 |none=>none|some p=>
  match P with
  |some P=>some (c7 p P)|none=>none
def vI(p:Ev)(P:af):Option af:=
 match p with
 |.aa=>some .aa|.bool b=>
  match b with
  |.c _=>some P|.s _=>
   match P with
   |.atom (.bool b)=>some (.bool (.s b.v))|_=>none
 |_=>some P
def nG(p:bh)(P:af):Option af:=
 match p with
 |.int _ z=>
  match z with
  |.c _=>some P|.s _=>
   match P with
   |.num (.int k z)=>some (.int k (.s z.v))|_=>none
 |.bQ _=>P.fD.map fun P=>.bQ P|.cX _=>P.mC.map fun P=>.cX P|.aD _=>P.iq.map fun P=>.aD P|.au _=>P.fE.map fun P=>.au P
def nH(p:Ref)(P:af):Option af:=
 match p with
 |.ptr _ a=>
  match P with
  |.ref (.ptr b d)=>some (.ptr b (c7 a d))|_=>none
 |.eE .. =>some P|.gs .. =>some P|.sm e pl ps=>
  match P with
  |.ref (.sm b l f)=>some (.sm b (c7 pl l) f)|.atom .cI=>some (.sm e (c7 pl (.c 0)) ps)|_=>none
 |.sl e a pl g=>
  match P with
  |.ref (.sl b d l c)=>some (.sl b (c7 a d) (c7 pl l) (Al g c))|.atom .cI=>some (.sl e (c7 a (.c 0)) (c7 pl (.c 0)) none)|_=>none
mutual
def b9:af→af→Option af
 |.atom p,P=>vI p P|.num p,P=>nG p P|.ref p,P=>nH p P|.agg ps,P=>
  match P with
  |.agg R=>
   match iP ps R with
   |some R=>some (.agg R)|none=>none
  |_=>none
 |.obj t ps,P=>
  match t with
  |.bx=>
   match P with
   |.obj .bx R=>
    match iP ps R with
    |some R=>some (.obj .bx R)|none=>none
   |_=>none
  |_=>some P
def iP:List af→List af→Option (List af)
 |[],R=>
  match R with
  |[]=>some []|_=>none
 |p::ps,R=>
  match R with
  |[]=>none|P::R=>
   match b9 p P with
   |none=>none|some Q=>
    match iP ps R with
    |none=>none|some T=>some (Q::T)
end
def kq(p d:Data):Option Data:=
 match p with
 |.ag _=>d.j7.map fun l=>.ag l|.eY _=>d.oC.map fun l=>.eY l|.bt _=>d.oD.map fun l=>.bt l|.gen ps=>
  match d with
  |.gen R=>(iP ps R).map fun l=>.gen l|_=>none
 |.spot .. =>none|.fc _ a=>
  match d with
  |.fc l t=>(iP a t).map fun t=>.fc l t|_=>none
 |.lim .. =>
  match d with
  |.lim f l=>some (.lim f l)|_=>none
def eM(p k:ah):Option ah:=
 match p.mode with
 |.bn=>some ⟨.gen [],.bn⟩|.ro=>
  match k.mode with
  |.bn=>none|_=>
   match kq p.data k.data with
   |some d=>some ⟨d,.ro⟩|none=>none
 |.own=>
  match k.mode with
  |.own=>
   match kq p.data k.data with
   |some d=>some ⟨d,.own⟩|none=>none
  |_=>none
def eX:List ah→List ah→Option (List ah)
 |[],a=>
  match a with
  |[]=>some []|_=>none
 |p::ps,a=>
  match a with
  |[]=>none|k::a=>
   match eM p k with
   |none=>none|some k=>
    match eX ps a with
    |none=>none|some a=>some (k::a)
def jD(rs:Option (List Nat))(p P:af):Option af:=
 match p with
 |.atom .aa=>some .aa|p=>
  match rs with
  |none=>b9 p P|some rs=>
   match toV rs P with
   |some P=>b9 p P|none=>none
def lC(rs:Option (List Nat)):List af→List af→Option (List af)
 |[],R=>
  match R with
  |[]=>some []|_=>none
 |p::ps,R=>
  match R with
  |[]=>none|P::R=>
   match jD rs p P with
   |none=>none|some Q=>
    match lC rs ps R with
    |none=>none|some T=>some (Q::T)
def sk(rs:Option (List Nat))(a:List (Nat×af)):List (Nat×af)→Option (List (Nat×af))
 |[]=>some []|(t,p)::ps=>
  match jD rs p (kO t a)with
  |none=>none|some Q=>
   match sk rs a ps with
   |none=>none|some T=>some ((t,Q)::T)
def gq(rs:Option (List Nat))(p a:aI):Option aI:=
 match lC rs p.vars a.vars with
 |none=>none|some vs=>
  match sk rs a.tmps p.tmps with
  |none=>none|some b=>some ⟨vs,b⟩
def CV:Nat→Nat→List Nat→Bool
 |0,_,_=>true|n+1,i,rs=>
  match rs with
  |[]=>false|P::rs=>
   match Nat.beq P i with
   |true=>CV n (i+1) rs|false=>false
def lZ(n0:Nat)(cG:List ah)(rs:Option (List Nat))(ps U:List ah):Option (List ah):=
 match rs with
 |none=>eX ps (U++cG)|some rs=>
  match BQ rs&&CV n0 0 rs with
  |false=>none|true=>
   match xl (U++cG) rs rs with
   |some U=>eX ps U|none=>none
def tL(p P:N):(c7 p P).v=P.v:=by cases p<;>rfl
section
variable{β:aE}
def kT{p:Ev}(h:vI p P=some Q)(a:aC β P v):aC β Q v:=by
 unfold vI at h;split at h
 ·cases h;exact .aa _
 ·split at h
  ·cases h;exact a
  ·split at h
   ·rename_i b;cases h;rw[a.tC];exact .bool (.s b.v)
   ·cases h
 ·cases h;exact a
def kU{p:bh}(h:nG p P=some Q)(a:aC β P v):aC β Q v:=by
 unfold nG at h;split at h
 ·split at h
  ·cases h;exact a
  ·split at h
   ·rename_i k z;cases h;rw[a.num_inv];exact .num (.int k (.s z.v))
   ·cases h
 ·cases P with
  |num n=>
   simp only[af.fD,bU]at h;obtain⟨z,h1,rfl⟩:=h;rw[a.num_inv,bh.rX h1];exact .num (.bQ z)
  |_=>simp[af.fD]at h
 ·cases P with
  |num n=>
   simp only[af.mC,bU]at h;obtain⟨z,h1,rfl⟩:=h;rw[a.num_inv,bh.Cc h1];exact .num (.cX z)
  |_=>simp[af.mC]at h
 ·cases P with
  |num n=>
   simp only[af.iq,bU]at h;obtain⟨z,h1,rfl⟩:=h;rw[a.num_inv,bh.u9 h1];exact .num (.aD z)
  |_=>simp[af.iq]at h
 ·cases P with
  |num n=>
   simp only[af.fE,bU]at h;obtain⟨z,h1,rfl⟩:=h;rw[a.num_inv,bh.oN h1];exact .num (.au z)
  |_=>simp[af.fE]at h
def kV{p:Ref}(h:nH p P=some Q)(e:aC β P v):aC β Q v:=by
 unfold nH at h;split at h
 ·split at h
  ·rename_i b o;cases h;obtain⟨q,r,rfl⟩:=e.sd;rw[←tL];exact .ptr b _ q r
  ·cases h
 ·cases h;exact e
 ·cases h;exact e
 ·split at h
  ·rename_i f pl ps _ b l s;cases h;obtain⟨a,g,rfl,i,j⟩:=e.Cq;rw[←tL pl l];exact .sm b _ s a g (by rw[tL];exact i) j
  ·rename_i f pl ps _;cases h;cases e;have m:(c7 pl (.c 0)).v=0:=tL _ _;have:=aC.sm (β:=β) f (c7 pl (.c 0)) ps none 0 (by omega) (.inl rfl);rw[m]at this;exact this
  ·cases h
 ·split at h
  ·rename_i f n pl t _ b o l c;cases h;obtain⟨a,g,rfl,i,u,j⟩:=e.pW;rw[←tL pl l];refine .sl b _ _ _ a g (by rw[tL];exact i) (fun C d=>?_) (by rw[tL];exact j);unfold Al at d;split at d
   ·cases d
   ·split at d
    ·injection d with d;subst d;rw[tL];exact u _ rfl
    ·cases d
  ·rename_i f n pl t _;cases h;cases e;have m:(c7 pl (.c 0)).v=0:=tL _ _;have:=aC.sl (β:=β) f (c7 n (.c 0)) (c7 pl (.c 0)) none none 0 (by omega) (fun C d=>by cases d) (.inl rfl);rw[m]at this;exact this
  ·cases h
def CW(h:iP ps R=some T):T.length=R.length∧∀(i:Nat) P Q,R[i]? =some P→T[i]? =some Q→∃p,b9 p P=some Q:=by
 induction ps generalizing R T with
 |nil=>
  simp only[iP]at h;split at h
  ·cases h;exact⟨rfl,fun i P Q e=>by simp at e⟩
  ·cases h
 |cons p ps f=>
  cases R with
  |nil=>simp[iP]at h|cons P R=>
   simp only[iP]at h;split at h
   ·cases h
   ·rename_i Q g;split at h
    ·cases h
    ·rename_i l j;cases h;obtain⟨h1,h2⟩:=f j;refine⟨by simp[h1],fun i a b c d=>?_⟩;cases i with
     |zero=>simp at c d;subst c d;exact⟨p,g⟩|succ i=>exact h2 i a b (by simpa using c) (by simpa using d)
def xU(d:aC β P v):∀{p Q:af},b9 p P=some Q→aC β Q v:=by
 induction d with
 |agg R vs e h o=>
  intro p Q c;cases p with
  |atom p=>exact kT c (.agg R vs e h)|num p=>exact kU c (.agg R vs e h)|ref p=>exact kV (by simpa only[b9]using c) (.agg R vs e h)|agg ps=>
   simp only[b9]at c;split at c
   ·rename_i T s;injection c with c;subst c;obtain⟨h1,h2⟩:=CW s;refine .agg T vs (h1.trans e) fun i a b j x=>?_;have hi:i<R.length:=by
     rcases cv i R.length with h|h
     ·exact h
     ·rw[di (by omega)]at j;cases j
    obtain⟨q,y⟩:=h2 i _ a (bW hi) j;exact o i _ b (bW hi) x y
   ·cases c
  |obj t ps=>
   simp only[b9]at c;split at c
   ·cases c
   ·injection c with c;subst c;exact .agg R vs e h
 |bx R vs e h o=>
  intro p Q c;cases p with
  |atom p=>exact kT c (.bx R vs e h)|num p=>exact kU c (.bx R vs e h)|ref p=>exact kV (by simpa only[b9]using c) (.bx R vs e h)|agg ps=>simp[b9]at c|obj t ps=>
   simp only[b9]at c;split at c
   ·split at c
    ·rename_i T s;injection c with c;subst c;obtain⟨h1,h2⟩:=CW s;refine .bx T vs (h1.trans e) fun i a b j x=>?_;have hi:i<R.length:=by
      rcases cv i R.length with h|h
      ·exact h
      ·rw[di (by omega)]at j;cases j
     obtain⟨q,y⟩:=h2 i _ a (bW hi) j;exact o i _ b (bW hi) x y
    ·cases c
   ·injection c with c;subst c;exact .bx R vs e h
 |ig t P v h o=>
  intro p Q c;have d:=aC.ig t P v h;cases p with
  |atom p=>exact kT c d|num p=>exact kU c d|ref p=>exact kV (by simpa only[b9]using c) d|agg ps=>simp[b9]at c|obj t ps=>
   simp only[b9]at c;split at c
   ·cases c
   ·injection c with c;subst c;exact d
 |fn f n R first captured A e h o=>
  intro p Q c;have d:=aC.fn f n R first captured A e h
  cases p with
  |atom p=>exact kT c d|num p=>exact kU c d|ref p=>exact kV (by simpa only[b9]using c) d|agg ps=>simp[b9]at c|obj t ps=>
   simp only[b9]at c;split at c
   ·cases c
   ·injection c with c;subst c;exact d
 |aa v=>
  intro p Q c;have d:=aC.aa (β:=β) v;cases p with
  |atom p=>exact kT c d|num p=>exact kU c d|ref p=>exact kV (by simpa only[b9]using c) d|agg ps=>simp[b9]at c|obj t ps=>
   simp only[b9]at c;split at c
   ·cases c
   ·injection c with c;subst c;exact d
 |bool b=>
  intro p Q c;have d:=aC.bool (β:=β) b;cases p with
  |atom p=>exact kT c d|num p=>exact kU c d|ref p=>exact kV (by simpa only[b9]using c) d|agg ps=>simp[b9]at c|obj t ps=>
   simp only[b9]at c;split at c
   ·cases c
   ·injection c with c;subst c;exact d
 |str z=>
  intro p Q c;have d:=aC.str (β:=β) z;cases p with
  |atom p=>exact kT c d|num p=>exact kU c d|ref p=>exact kV (by simpa only[b9]using c) d|agg ps=>simp[b9]at c|obj t ps=>
   simp only[b9]at c;split at c
   ·cases c
   ·injection c with c;subst c;exact d
 |mA=>
  intro p Q c;have d:=aC.mA (β:=β);cases p with
  |atom p=>exact kT c d|num p=>exact kU c d|ref p=>exact kV (by simpa only[b9]using c) d|agg ps=>simp[b9]at c|obj t ps=>
   simp only[b9]at c;split at c
   ·cases c
   ·injection c with c;subst c;exact d
 |cI=>
  intro p Q c;have d:=aC.cI (β:=β);cases p with
  |atom p=>exact kT c d|num p=>exact kU c d|ref p=>exact kV (by simpa only[b9]using c) d|agg ps=>simp[b9]at c|obj t ps=>
   simp only[b9]at c;split at c
   ·cases c
   ·injection c with c;subst c;exact d
 |fC=>
  intro p Q c;have d:=aC.fC (β:=β);cases p with
  |atom p=>exact kT c d|num p=>exact kU c d|ref p=>exact kV (by simpa only[b9]using c) d|agg ps=>simp[b9]at c|obj t ps=>
   simp only[b9]at c;split at c
   ·cases c
   ·injection c with c;subst c;exact d
 |mB=>
  intro p Q c;have d:=aC.mB (β:=β);cases p with
  |atom p=>exact kT c d|num p=>exact kU c d|ref p=>exact kV (by simpa only[b9]using c) d|agg ps=>simp[b9]at c|obj t ps=>
   simp only[b9]at c;split at c
   ·cases c
   ·injection c with c;subst c;exact d
 |exact u=>
  intro p Q c;have d:=aC.exact (β:=β) u;cases p with
  |atom p=>exact kT c d|num p=>exact kU c d|ref p=>exact kV (by simpa only[b9]using c) d|agg ps=>simp[b9]at c|obj t ps=>
   simp only[b9]at c;split at c
   ·cases c
   ·injection c with c;subst c;exact d
 |num n=>
  intro p Q c;have d:=aC.num (β:=β) n;cases p with
  |atom p=>exact kT c d|num p=>exact kU c d|ref p=>exact kV (by simpa only[b9]using c) d|agg ps=>simp[b9]at c|obj t ps=>
   simp only[b9]at c;split at c
   ·cases c
   ·injection c with c;subst c;exact d
 |ptr b m B C=>
  intro p Q c;have d:=aC.ptr b m B C;cases p with
  |atom p=>exact kT c d|num p=>exact kU c d|ref p=>exact kV (by simpa only[b9]using c) d|agg ps=>simp[b9]at c|obj t ps=>
   simp only[b9]at c;split at c
   ·cases c
   ·injection c with c;subst c;exact d
 |eE g m=>
  intro p Q c;have d:=aC.eE (β:=β) g m;cases p with
  |atom p=>exact kT c d|num p=>exact kU c d|ref p=>exact kV (by simpa only[b9]using c) d|agg ps=>simp[b9]at c|obj t ps=>
   simp only[b9]at c;split at c
   ·cases c
   ·injection c with c;subst c;exact d
 |gs g m l r h1=>
  intro p Q c;have d:=aC.gs (β:=β) g m l r h1;cases p with
  |atom p=>exact kT c d|num p=>exact kU c d|ref p=>exact kV (by simpa only[b9]using c) d|agg ps=>simp[b9]at c|obj t ps=>
   simp only[b9]at c;split at c
   ·cases c
   ·injection c with c;subst c;exact d
 |sm b l z a r h1 h3=>
  intro p Q c;have d:=aC.sm b l z a r h1 h3;cases p with
  |atom p=>exact kT c d|num p=>exact kU c d|ref p=>exact kV (by simpa only[b9]using c) d|agg ps=>simp[b9]at c|obj t ps=>
   simp only[b9]at c;split at c
   ·cases c
   ·injection c with c;subst c;exact d
 |sl b m l D a r h1 h2 h3=>
  intro p Q c;have d:=aC.sl b m l D a r h1 h2 h3;cases p with
  |atom p=>exact kT c d|num p=>exact kU c d|ref p=>exact kV (by simpa only[b9]using c) d|agg ps=>simp[b9]at c|obj t ps=>
   simp only[b9]at c;split at c
   ·cases c
   ·injection c with c;subst c;exact d
def QV(h:iP ps R=some T)(d:aJ β R vs):aJ β T vs:=by
 obtain⟨h1,h2⟩:=CW h;refine⟨h1.trans d.1,fun i a b c e=>?_⟩;have hi:i<R.length:=by
  rcases cv i R.length with h|h
  ·exact h
  ·rw[di (by omega)]at c;cases c
 obtain⟨q,f⟩:=h2 i _ a (bW hi) c;exact xU (d.2 i _ b (bW hi) e) f
end
def QW{a t b:List af}(h:iP a t=some b):∀l:List Value,iP (l.map af.exact++a) (l.map af.exact++t)=some (l.map af.exact++b)
 |[]=>h|v::l=>by
  show iP (af.exact v::(l.map af.exact++a)) (af.exact v::(l.map af.exact++t))=some (af.exact v::(l.map af.exact++b));rw[iP,QW h l];rfl
def QX{p d c:Data}(h:kq p d=some c):nF d c:=by
 unfold kq at h;split at h
 ·rw[bU]at h;obtain⟨l,h1,rfl⟩:=h;exact aaK h1
 ·rw[bU]at h;obtain⟨l,h1,rfl⟩:=h;exact aaJ h1
 ·rw[bU]at h;obtain⟨l,h1,rfl⟩:=h;exact aaL h1
 ·split at h
  ·rw[bU]at h;obtain⟨l,h1,rfl⟩:=h;exact⟨(CW h1).1,fun β vs b=>QV h1 b,.inr ⟨lX _,lX _⟩⟩
  ·cases h
 ·cases h
 ·split at h
  ·rename_i l t;rw[bU]at h;obtain⟨e,h1,rfl⟩:=h;have a:=QW h1 l;exact⟨by have:=(CW a).1;simpa[Data.len]using this,fun β vs b=>QV a b,.inr ⟨fun f l a=>(by cases a),fun f l a=>(by cases a)⟩⟩
  ·cases h
 ·split at h
  ·cases h;exact nF.refl _
  ·cases h
def aaM{p:ah}(h:eM p k=some S):S.mode=.bn∨(k.mode.alive∧(S.mode=k.mode∨S.mode=.ro)∧nF k.data S.data):=by
 unfold eM at h;split at h
 ·cases h;exact .inl rfl
 ·split at h
  ·cases h
  ·rename_i a;split at h
   ·rename_i d b;cases h;exact .inr ⟨a,.inr rfl,QX b⟩
   ·cases h
 ·split at h
  ·rename_i a;split at h
   ·rename_i d b;cases h;exact .inr ⟨eu a,.inl a.symm,QX b⟩
   ·cases h
  ·cases h
def g8.look{β:aE}{w:World}{b:Loc}(h:g8 β k b w)(c:k.mode.alive)(a:S.mode=k.mode∨S.mode=.ro)(d:nF k.data S.data):g8 β S b w:=by
 rcases a with a|a
 ·exact h.less a d
 ·have e:je β k.data b w:=⟨h.lt c,h.room c,fun i P f=>h.cell c f⟩;obtain⟨g,j⟩:=S;simp only at a d;subst a;exact je.less e d
def tM{ps a c:List ah}(h:eX ps a=some c):c.length=a.length∧∀(i:Nat) S,c[i]? =some S→∃k,a[i]? =some k∧(S.mode=.bn∨(k.mode.alive∧(S.mode=k.mode∨S.mode=.ro)∧nF k.data S.data)):=by
 induction ps generalizing a c with
 |nil=>
  simp only[eX]at h;split at h
  ·cases h;exact⟨rfl,fun i P e=>by simp at e⟩
  ·cases h
 |cons p ps f=>
  cases a with
  |nil=>simp[eX]at h|cons k a=>
   simp only[eX]at h;split at h
   ·cases h
   ·rename_i Q g;split at h
    ·cases h
    ·rename_i l j;cases h;obtain⟨h1,h2⟩:=f j;refine⟨by simp[h1],fun i b d=>?_⟩;cases i with
     |zero=>simp at d;subst d;exact⟨k,rfl,aaM g⟩|succ i=>exact h2 i b (by simpa using d)
section
variable{G:Nat→Option (List af)}{β:aE}{w:World}
def aL.JU{ps:List ah}(h:aL G β U w)(p:eX ps U=some V):aL G β V w∧(∀(b:Nat) k,V[b]? =some k→k.mode=.own→∃i,U[b]? =some i∧i.mode=.own):=by
 obtain⟨h1,h2⟩:=tM p;have j:∀(b:Nat) k,V[b]? =some k→k.mode=.own→∃i,U[b]? =some i∧i.mode=.own:=by
  intro b S c d;obtain⟨k,e,a|⟨_,a|a,_⟩⟩:=h2 b S c
  ·rw[d]at a;cases a
  ·exact⟨k,e,a▸d⟩
  ·rw[d]at a;cases a
 refine⟨⟨fun b S c l=>?_,fun b m q r f s t c u d l g x=>?_,fun b f g=>by rw[h1];exact h.fW b f g,h.dB,fun b S f c d g=>?_⟩,j⟩
 ·obtain⟨k,e,a|⟨n,a,o⟩⟩:=h2 b S c
  ·exact absurd a l
  ·rcases h.blk b k e n with⟨f,g,y⟩|⟨z,A⟩
   ·exact .inl ⟨f,g,y.look n a o⟩
   ·exact .inr ⟨o.1.trans z,A⟩
 ·obtain⟨k,e,a⟩:=j b q c d;obtain⟨S,B,C|⟨D,_⟩⟩:=h2 m r u
  ·exact absurd C l
  exact h.dO b m k S f s t e B a D g x
 ·obtain⟨k,e,a⟩:=j b S c d;exact h.apart b k f e a g
def QY(h:∀(b:Nat) k,V[b]? =some k→k.mode=.own→∃a,U[b]? =some a∧a.mode=.own):∀c,Own β V c→Own β U c:=by
 rintro c ⟨b,S,d,e,f,g,i⟩;obtain⟨k,j,l⟩:=h b S e f;exact⟨b,k,d,j,l,g,i⟩
def aL.QZ(h:aL G β U w)(o:∀k∈cG,k.data.len=0):aL G β (U++cG) w∧(∀c,Own β (U++cG) c→Own β U c):=by
 have f:∀(b:Nat) k,(U++cG)[b]? =some k→U[b]? =some k∨(k.data.len=0∧β b=none):=by
  intro b k d;rcases cv b U.length with j|j
  ·rw[iE j]at d;exact .inl d
  ·rw[ie j]at d;refine .inr ⟨o k (rH d),?_⟩;cases p:β b with
   |none=>rfl|some e=>have:=h.fW b e p;omega
 refine⟨⟨fun b k d l=>?_,fun b n k S e q r d s i l a m=>?_,fun b e a=>?_,h.dB,fun b k e d i a=>?_⟩,?_⟩
 ·rcases f b k d with g|g
  ·exact h.blk b k g l
  ·exact .inr g
 ·rcases f b k d with g|⟨_,g⟩
  ·rcases f n S s with g'|⟨_,g'⟩
   ·exact h.dO b n k S e q r g g' i l a m
   ·rw[g']at m;cases m
  ·rw[g]at a;cases a
 ·have:=h.fW b e a;rw[fA];omega
 ·rcases f b k d with g|⟨_,g⟩
  ·exact h.apart b k e g i a
  ·rw[g]at a;cases a
 ·rintro c ⟨b,k,e,d,i,a,t⟩;rcases f b k d with g|⟨_,g⟩
  ·exact⟨b,k,e,g,i,a,t⟩
  ·rw[g]at a;cases a
def aL.inner{U g:List ah}{rs:List Nat}(m:aL G β U w)(s:rs.Nodup)(t:xl U rs rs=some g):aL G (inner β rs) g w∧(∀c,Own (inner β rs) g c→Own β U c)∧g.length=rs.length:=by
 obtain⟨n,u⟩:=JR t;have x:∀(i j b:Nat),rs[i]? =some b→rs[j]? =some b→i=j:=by
  intro i j b hi p;have L:i<rs.length:=(dX.1 hi).1;have M:j<rs.length:=(dX.1 p).1;exact(List.getElem_inj s).1 (by rw[(dX.1 hi).2,(dX.1 p).2])
 have h:∀(i:Nat) S,g[i]? =some S→∃b d,rs[i]? =some b∧U[b]? =some ⟨d,S.mode⟩∧toD rs d=some S.data:=by
  intro i S e;have hi:i<rs.length:=by rw[←n];exact(dX.1 e).1
  obtain⟨d,h1,h2⟩:=u i _ S (bW hi) e;exact⟨_,d,bW hi,h1,h2⟩
 refine⟨⟨fun i S e o=>?_,fun i j k S f y z e A l o a q=>?_,fun i f a=>?_,m.dB,fun i k f e l a=>?_⟩,?_,n⟩
 ·obtain⟨b,d,h1,h2,h3⟩:=h i S e;rw[lB h1];obtain⟨B,N⟩:=S;rcases m.blk b _ h2 o with⟨f,a,C⟩|⟨D,E⟩
  ·exact .inl ⟨f,a,C.to h3⟩
  ·exact .inr ⟨by rw[(toD_spec (β:=β) h3).1];exact D,E⟩
 ·obtain⟨b,d,h1,h2,h3⟩:=h i k e;obtain⟨F,B,r,H,O⟩:=h j S A;rw[lB h1]at a;rw[lB r]at q;refine m.dO b F _ _ f y (fun I=>z ?_) h2 H l o a q;subst I;exact x i j b h1 r
 ·unfold aA.inner at a;split at a
  ·rename_i b J;rw[n];exact(dX.1 J).1
  ·cases a
 ·obtain⟨b,d,h1,h2,h3⟩:=h i k e;rw[lB h1]at a;exact m.apart b _ f h2 l a
 ·rintro c ⟨i,k,f,e,l,a,K⟩;obtain⟨b,d,h1,h2,h3⟩:=h i k e;rw[lB h1]at a;exact⟨b,_,f,h2,l,a,K⟩
def Q0:∀(n i:Nat) (rs:List Nat),CV n i rs=true→∀j,j<n→rs[j]? =some (i+j)
 |0,_,_,_,j,b=>by omega|n+1,i,[],h,j,_=>by simp[CV]at h|n+1,i,P::rs,h,j,b=>by
  simp only[CV]at h;split at h
  ·rename_i a;have a:P=i:=by simpa using a
   cases j with
   |zero=>simp[a]|succ j=>
    have:=Q0 n (i+1) rs h j (by omega);simp only[rM,this];congr 1;omega
  ·cases h
def xV{n0:Nat}{ps:List ah}(m:∀k∈cG,k.data.len=0)(h:lZ n0 cG rs ps U=some V)(z:n0≤U.length)(n:aL G β U w):
 ∃β':aE,aL G β' V w∧(∀b,b<n0→β' b=β b)∧n0≤V.length∧(∀c,Own β' V c→Own β U c)∧∀p P Q v,jD rs p P=some Q→aC β P v→aC β' Q v:=by
 obtain⟨i,j⟩:=n.QZ m;cases rs with
 |none=>
  simp only[lZ]at h;obtain⟨d,bf⟩:=i.JU h;refine⟨β,d,fun _ _=>rfl,by rw[(tM h).1,fA];omega,fun c e=>j c (QY bf c e),fun p P Q v a f=>?_⟩;unfold jD at a;split at a
  ·injection a with a;subst a;exact .aa _
  ·exact xU f a
 |some rs=>
  simp only[lZ]at h;split at h
  ·cases h
  rename_i g;simp only[dH]at g;split at h
  case h_2=>cases h
  rename_i A o;obtain⟨d,bf,q⟩:=i.inner (JQ g.1) o;obtain⟨r,s⟩:=d.JU h;have l:=Q0 n0 0 rs g.2;refine⟨aA.inner β rs,r,fun b t=>?_,?_,fun c e=>j c (bf c (QY s c e)),fun p P Q v a f=>?_⟩
  ·have:=l b t;rw[cM]at this;exact lB this
  ·rw[(tM h).1,q];rcases cv rs.length n0 with u|x
   ·have:=l rs.length u;rw[di (aX _)]at this;cases this
   ·exact x
  ·unfold jD at a;split at a
   ·injection a with a;subst a;exact .aa _
   ·simp only at a;split at a
    ·rename_i B y;exact xU (toV_rel f y) a
    ·cases a
def Q1(h:lC rs ps R=some T):T.length=R.length∧∀(i:Nat) P Q,R[i]? =some P→T[i]? =some Q→∃p,jD rs p P=some Q:=by
 induction ps generalizing R T with
 |nil=>
  simp only[lC]at h;split at h
  ·cases h;exact⟨rfl,fun i P Q e=>by simp at e⟩
  ·cases h
 |cons p ps f=>
  cases R with
  |nil=>simp[lC]at h|cons P R=>
   simp only[lC]at h;split at h
   ·cases h
   ·rename_i Q g;split at h
    ·cases h
    ·rename_i l j;cases h;obtain⟨h1,h2⟩:=f j;refine⟨by simp[h1],fun i a b c d=>?_⟩;cases i with
     |zero=>simp at c d;subst c d;exact⟨p,g⟩|succ i=>exact h2 i a b (by simpa using c) (by simpa using d)
def Q2(e:∀p P Q v,jD rs p P=some Q→aC β P v→aC β' Q v)(h:lC rs ps R=some T)(d:aJ β R vs):aJ β' T vs:=by
 obtain⟨h1,h2⟩:=Q1 h;refine⟨h1.trans d.1,fun i a b c f=>?_⟩;have hi:i<R.length:=by
  rcases cv i R.length with h|h
  ·exact h
  ·rw[di (by omega)]at c;cases c
 obtain⟨q,g⟩:=h2 i _ a (bW hi) c;exact e q _ a _ g (d.2 i _ b (bW hi) f)
def Q3{rs:Option (List Nat)}{b:List (Nat×af)}:∀{ps T:List (Nat×af)},sk rs b ps=some T→∀t,kO t T=.aa∨∃p,jD rs p (kO t b)=some (kO t T)
 |[],T,h,t=>by simp[sk]at h;subst h;exact .inl rfl|(c,p)::ps,T,h,t=>by
  simp only[sk]at h;split at h
  ·cases h
  ·rename_i Q d;split at h
   ·cases h
   ·rename_i f e;cases h;simp only[kO];split
    ·rename_i a;have a:c=t:=by simpa using a
     subst a;exact .inr ⟨p,d⟩
    ·exact Q3 e t
def xW [oU]{aj f:Nat}(g:∀p P Q v,jD rs p P=some Q→aC β P v→aC β' Q v){p c i:aI}{a:Act}(h:gq rs p c=some i)(d:cL aj f β c a):cL aj f β' i a:=by
 unfold gq at h;split at h
 ·cases h
 rename_i vs n;split at h
 ·cases h
 rename_i s o;cases h;refine⟨fun t=>?_,d.size,d.defers⟩;have b:=d.val t;simp only[aI.get]at b⊢;cases j:Nat.blt t aj with
 |true=>
  rw[j]at b;simp only[cg]at b⊢;obtain⟨h1,h2⟩:=Q1 n;cases l:vs[t]? with
  |none=>exact .aa _|some Q=>
   have m:t<c.vars.length:=by rw[←h1];exact(dX.1 l).1
   obtain⟨q,e⟩:=h2 t _ Q (bW m) l;rw[bW m]at b;exact g q _ Q _ e b
 |false=>
  rw[j]at b;simp only at b⊢;rcases Q3 o t with r|⟨q,e⟩
  ·rw[r];exact .aa _
  ·exact g q _ _ _ e b
end
end
section
variable [aR][aF]
variable{D:Type}{β:aE}{H:List ah}{w:World}{b:Code}{f:aI→ai→Option (dJ×aI×ai)}{β':aE}{fI:List ah}{w':World}{m:Mode}{F R:List ah}{V:Spec}{call:gf}{Q:Option (List Nat)}{cs:List Bool}
def vH(m:Mode):Bool:=
 match m with
 |.ro=>false|_=>true
def F2:List ah→Bool
 |[]=>true|k::r=>
  match vH k.mode with
  |true=>F2 r|false=>false
def JV(m:Mode):Bool:=
 match m with
 |.own=>true|_=>false
def sn:List ah→List ah→List ah→Option (List ah)
 |[],_,a=>
  match F2 a with
  |true=>some a|false=>none
 |h::H,c,a=>
  match c with
  |[]=>none|f::c=>
   match a with
   |[]=>none|k::a=>
    match sn H c a with
    |none=>none|some r=>
     match JV f.mode with
     |true=>
      match vH k.mode with
      |true=>some (k::r)|false=>none
     |false=>some (h::r)
def Q4(h:vH m=true):m≠.ro:=by cases m<;>simp[vH]at h⊢
def Q5:JV m=true↔m=.own:=by cases m<;>simp[JV]
def Q6:∀{l:List ah},F2 l=true→∀(i:Nat) k,l[i]? =some k→k.mode≠.ro
 |[],_,i,k,h=>by simp at h|d::r,a,i,k,h=>by
  simp only[F2]at a;split at a
  ·rename_i c;cases i with
   |zero=>simp at h;subst h;exact Q4 c|succ i=>exact Q6 a i k (by simpa using h)
  ·cases a
def Am:∀{H F R e:List ah},sn H F R=some e→H.length≤F.length∧H.length≤R.length∧e.length=R.length∧
 ∀(b:Nat) k,e[b]? =some k→(R[b]? =some k∧k.mode≠.ro∧(b<H.length→∃f,F[b]? =some f∧f.mode=.own))∨(H[b]? =some k∧∃f,F[b]? =some f∧f.mode≠.own)
 |[],F,R,e,h=>by
  simp only[sn]at h;split at h
  ·rename_i l;cases h;exact⟨kI _,kI _,rfl,fun b k a=>.inl ⟨a,Q6 l b k a,fun g=>by simp at g⟩⟩
  ·cases h
 |q::H,F,R,e,h=>by
  simp only[sn]at h;cases F with
  |nil=>cases h
  |cons f F=>
  cases R with
  |nil=>cases h
  |cons s R=>
  simp only at h;split at h
  ·cases h
  rename_i r n;obtain⟨h1,h2,h3,h4⟩:=Am n;split at h
  ·rename_i i;split at h
   ·rename_i o;cases h;refine⟨by simp;omega,by simp;omega,by simp[h3],fun b k a=>?_⟩;cases b with
    |zero=>simp at a;subst a;exact .inl ⟨rfl,Q4 o,fun _=>⟨f,rfl,Q5.1 i⟩⟩|succ b=>
     rcases h4 b k (by simpa using a)with⟨c,d,j⟩|⟨c,d⟩
     ·exact .inl ⟨by simpa using c,d,fun g=>by simpa using j (by simpa using g)⟩
     ·exact .inr ⟨by simpa using c,by simpa using d⟩
   ·cases h
  ·rename_i i;cases h;refine⟨by simp;omega,by simp;omega,by simp[h3],fun b k a=>?_⟩;cases b with
   |zero=>simp at a;subst a;exact .inr ⟨rfl,f,rfl,fun p=>by rw[Q5.2 p]at i;cases i⟩
   |succ b=>
    rcases h4 b k (by simpa using a)with⟨c,d,j⟩|⟨c,d⟩
    ·exact .inl ⟨by simpa using c,d,fun g=>by simpa using j (by simpa using g)⟩
    ·exact .inr ⟨by simpa using c,by simpa using d⟩
structure gL(n0:Nat)(β:aE)(H:List ah)(w:World)(β':aE)(fI:List ah)(w':World):Prop where
 le:aE.le β β'
 len:n0≤fI.length
 os:w'.os=w.os
 tape:w'.tape=w.tape
 output:w'.output=w.output
 size:w.heap.size≤w'.heap.size
 kept:∀c,c<w.heap.size→¬Own β H c→bL c w w'
 own:∀c,c<w.heap.size→Own β' fI c→Own β H c
 old:∀b,b<n0→β' b=β b
def bM.q{n0:Nat}(h:bM β H w β' fI w')(a:n0≤H.length):gL n0 β H w β' fI w':=
 ⟨h.le,gb a h.len,h.os,h.tape,h.output,h.size,h.kept,h.own,fun b c=>h.old b (by omega)⟩
def gL.trans{n0:Nat}{e:aE}{g:List ah}{i:World}(h:gL n0 β H w β' fI w')(k:bM β' fI w' e g i):gL n0 β H w e g i where
 le:=aE.le_trans h.le k.le
 len:=gb h.len k.len
 os:=k.os.trans h.os
 tape:=k.tape.trans h.tape
 output:=k.output.trans h.output
 size:=gb h.size k.size
 kept c a j:=(h.kept c a j).trans (k.kept c (dL a h.size) (fun d=>j (h.own c a d)))
 own c a d:=h.own c a (k.own c (dL a h.size) d)
 old b l:=(k.old b (dL l h.len)).trans (h.old b l)
def gL.wk{n0:Nat}{d:aE}{e:List ah}{g:World}(h:gL n0 d e g β H w)(k:∀b a,d b=some a→b<n0)(h1:∀b,b<n0→β' b=β b)(h2:n0≤fI.length)(h3:∀c,Own β' fI c→Own β H c):gL n0 d e g β' fI w:=
 ⟨fun b a i=>by rw[h1 b (k b a i)];exact h.le b a i,h2,h.os,h.tape,h.output,h.size,h.kept,fun c l n=>h.own c l (h3 c n),fun b j=>(h1 b j).trans (h.old b j)⟩
section
variable{G:Nat→Option (List af)}
def F3{E:List ah}(t:aL G β H w)(ap:aL G β F w)(Z:∀(b:Nat) k a,F[b]? =some k→k.mode=.own→β b=some a→∃n,H[b]? =some n∧n.mode=.own)
 (x:aL G β' R w') (i:gL H.length β F w β' R w') (aa:sn H F R=some E):aL G β' E w'∧bM β H w β' E w':=by
 obtain⟨aq,ar,ab,u⟩:=Am aa;have v:∀{b:Nat} {k:ah},H[b]? =some k→b<H.length:=fun h=>(dX.1 h).1;have q:∀b,b<H.length→β' b=β b:=fun b I=>i.old b I;have M:∀c,Own β F c→∃(b:Nat) (n f:ah) (a:Loc),H[b]? =some n∧n.mode=.own∧β b=some a∧a.c=c∧F[b]? =some f∧f.mode=.own:=by
  rintro c ⟨b,k,a,h1,h2,h3,h4⟩;obtain⟨n,J,ad⟩:=Z b k a h1 h2 h3;exact⟨b,n,k,a,J,ad,h3,h4,h1,h2⟩
 have N:∀c,Own β F c→Own β H c:=by
  intro c y;obtain⟨b,n,f,a,h1,h2,h3,h4,_⟩:=M c y;exact⟨b,n,a,h1,h2,h3,h4⟩
 have K:∀(b:Nat) k a,H[b]? =some k→k.mode.alive→β b=some a→(∃f,F[b]? =some f∧f.mode≠.own)→¬Own β F a.c:=by
  rintro b k a h1 h2 h3 ⟨f,h4,J⟩ g;obtain⟨cm,ae,au,ag,d,z,L,bf,B,ak⟩:=M _ g;refine t.dO cm b ae k ag a (fun A=>?_) d h1 z h2 L h3 bf;subst A;rw[h4]at B;injection B with B;subst B;exact J ak
 refine⟨⟨fun b k r j=>?_,fun b o k p a C O r S g j e s=>?_,fun b a e=>by rw[ab];exact x.fW b a e,x.dB,fun b k a r g e=>?_⟩,
  ⟨i.le,by omega,i.os,i.tape,i.output,i.size,fun c y al=>i.kept c y (fun g=>al (N c g)),fun c y ⟨b,k,a,r,g,e,T⟩=>?_,fun b I=>q b I⟩⟩
 ·rcases u b k r with⟨d,_,_⟩|⟨d,z⟩
  ·exact x.blk b k d j
  ·rcases t.blk b k d j with⟨a,e,W⟩|⟨am,an⟩
   ·exact .inl ⟨a,i.le b a e,W.mono i.le i.size (i.kept _ (W.lt j) (K b k a d j e z))⟩
   ·exact .inr ⟨am,by rw[q b (v d)];exact an⟩
 ·rcases u b k r with⟨d,_,_⟩|⟨d,z⟩
  ·rcases u o p S with⟨l,_,_⟩|⟨l,X⟩
   ·exact x.dO b o k p a C O d l g j e s
   ·rw[q o (v l)]at s;intro A;refine K o p C l j s X (i.own _ (t.lt l j s) ⟨b,k,a,d,g,e,A⟩)
  ·rw[q b (v d)]at e;rcases u o p S with⟨l,L,_⟩|⟨l,X⟩
   ·intro A;have ao:p.mode=.own:=by
     cases Y:p.mode with
     |own=>rfl|ro=>exact absurd Y L|bn=>exact absurd Y j
    exact K b k a d (eu g) e z (i.own _ (t.lt d (eu g) e) ⟨o,p,C,l,ao,s,A.symm⟩)
   ·rw[q o (v l)]at s;exact t.dO b o k p a C O d l g j e s
 ·rcases u b k r with⟨d,_,_⟩|⟨d,_⟩
  ·exact x.apart b k a d g e
  ·rw[q b (v d)]at e;exact t.apart b k a d g e
 ·rcases u b k r with⟨d,_,_⟩|⟨d,_⟩
  ·exact N c (i.own c y ⟨b,k,a,d,g,e,T⟩)
  ·rw[q b (v d)]at e;exact⟨b,k,a,d,g,e,T⟩
def F4{cG g:List ah}(i:∀k∈cG,k.data.len=0)(d:aL G β H w)(h:eX g (H++cG)=some F):
 aL G β F w∧(∀(b:Nat) k c,F[b]? =some k→k.mode=.own→β b=some c→∃a,H[b]? =some a∧a.mode=.own)∧H.length≤F.length:=by
 obtain⟨j,_⟩:=d.QZ i;obtain⟨l,bf⟩:=j.JU h;refine⟨l,fun b k c n o p=>?_,by rw[(tM h).1,fA];omega⟩;obtain⟨a,e,q⟩:=bf b k n o;have:=d.fW b c p;rw[iE this]at e;exact⟨a,e,q⟩
end
def iter{D:Type}(f:D→D):Nat→D→D|0,d=>d|n+1,d=>iter f n (f d)
def gB{D:Type}(f:D→D):∀(n:Nat) (d:D),iter f (n+1) d=f (iter f n d)|0,_=>rfl|n+1,d=>by rw[iter,gB f n (f d)];rfl
structure qN(D:Type)where
 parse:aI→List ah→Option D
 cG:List ah
 ay:D→aI×List ah
 next:D→D
 rem:D→Nat
 aS:D→Bool
 out:dJ
 fin:D→aI×List ah
def qN.told(T:qN D):cP:=fun F S=>
 match T.parse F S.H with
 |none=>none|some d=>
  match sn S.H (T.ay d).2 (T.fin (iter T.next (T.rem d) d)).2 with
  |none=>none|some a=>some (T.out,(T.fin (iter T.next (T.rem d) d)).1,{H:=a,low:=0,dec:=S.dec,cond:=T.aS d::S.cond})
section
variable{P:Program}{G:Nat→Option (List af)}{aj U:Nat}
def Q7(T:qN D)(N:D→Nat)(av:∀F H d,T.parse F H=some d→N d=H.length)(j:dc P G aj U b f)
 (aw:∀k∈T.cG,k.data.len=0)
 (aT:∀F H d,T.parse F H=some d→gq none (T.ay d).1 F=some (T.ay d).1∧eX (T.ay d).2 (H++T.cG)=some (T.ay d).2)
 (aU:∀d k,T.aS d=true→T.rem d=k+1→∃s l e Q,f (T.ay d).1 ⟨(T.ay d).2,bJ,s,[]⟩=some (.normal,l,e)∧e.ok∧
  gq Q (T.ay (T.next d)).1 l=some (T.ay (T.next d)).1∧lZ (N d) [] Q (T.ay (T.next d)).2 e.H=some (T.ay (T.next d)).2∧T.aS (T.next d)=true∧T.rem (T.next d)=k∧N (T.next d)=N d)
 (aV:∀d,T.aS d=true→T.rem d=0→∃s l e Q,f (T.ay d).1 ⟨(T.ay d).2,bJ,s,[]⟩=some (T.out,l,e)∧e.ok∧(T.out=.normal→False)∧
  gq Q (T.fin d).1 l=some (T.fin d).1∧lZ (N d) [] Q (T.fin d).2 e.H=some (T.fin d).2):
 eH P G aj U b T.told:=by
 intro F S bk l e h;unfold qN.told at h;split at h
 ·cases h
 rename_i d I;split at h
 ·cases h
 rename_i aW J;simp only[aB,aN]at h;obtain⟨rfl,rfl,rfl⟩:=h;obtain⟨aX,u⟩:=aT F S.H d I;obtain⟨bl,bm,bn,ax⟩:=Am J;have bo:(T.ay d).2.length=S.H.length+T.cG.length:=by rw[(tM u).1,fA]
 refine⟨⟨fun ok az K=>ok az (m9 _ K),kI _,by simp only;omega,fun b j aY=>absurd aY (ox _),fun b k g L=>?_,fun b k g L=>?_⟩,fun ok β a w aZ x bp aA=>?_⟩
 ·
   simp only[cg]at g⊢;have j:b<S.H.length:=(dX.1 g).1;have aC:b<aW.length:=by omega
   rcases ax b _ (bW aC)with⟨_,_,a0⟩|⟨y,_⟩
   ·obtain⟨a1,a2,a3⟩:=a0 j;obtain⟨bq,z,o⟩:=(tM u).2 b a1 a2;rw[iE j,g]at z;injection z with z;subst z;rcases o with o|⟨o,_⟩
    ·rw[a3]at o;cases o
    ·exact absurd L o
   ·rw[g]at y;rw[y,bW aC]
 ·simp only[cg]at g⊢;rcases ax b k g with⟨_,a4,_⟩|⟨y,_⟩
  ·exact absurd L a4
  ·exact y
 ·have a5:T.aS d=true:=ok _ (lO ..);obtain⟨aD,a6,a7⟩:=F4 aw x u;obtain⟨br,_,_,_,_,bs⟩:=xV (n0:=0) (cG:=T.cG) (rs:=none) (ps:=(T.ay d).2) aw (by simp only[lZ];exact u) (kI _) x;have a8:cL aj U β (T.ay d).1 a:=by
   refine xW (β:=β) (β':=β) (rs:=none) (fun p az bt v r K=>?_) aX aZ;unfold jD at r;split at r
   ·injection r with r;subst r;exact .aa _
   ·exact xU K r
  have aG:∀b a9,β b=some a9→b<S.H.length:=x.fW;refine QI (fun n A w'=>∃c β',n=T.rem c∧T.aS c=true∧iter T.next (T.rem c) c=iter T.next (T.rem d) d∧N c=N d∧cL aj U β' (T.ay c).1 A∧aL G β' (T.ay c).2 w'∧gL S.H.length β (T.ay d).2 w β' (T.ay c).2 w')
   (n:=T.rem d) ⟨d,β,rfl,a5,rfl,rfl,a8,aD,(bM.refl ..).q a7⟩ ?_
  rintro n A w' ⟨c,β',rfl,aH,aJ,M,aK,aM,B⟩;cases C:T.rem c with
  |zero=>
   obtain⟨s,ba,O,Q,W,X,bb,Y,t⟩:=aV c aH C;have Z:N c=S.H.length:=M.trans (av F S.H d I);rw[Z]at t;obtain⟨aa,ab⟩:=j _ _ _ _ _ W;refine ab X β' A w' aK aM _ fun aO aP bc ad ae ag=>?_;have ak:S.H.length≤O.H.length:=by have bd:=B.len;have:=aa.len;simp only at this;omega
   obtain⟨al,am,an,ao,ap,aq⟩:=xV (n0:=S.H.length) (cG:=[]) (by simp) t ak ae;have ar:=xW aq Y ad;have bf:T.fin (iter T.next (T.rem d) d)=T.fin c:=by rw[←aJ,C];rfl
   rw[bf]at J aA;obtain⟨bg,bh⟩:=F3 x aD a6 am ((B.trans ag).wk aG an ao ap) J;have E:=aA aO aP al ar bg bh;cases au:T.out with
   |normal=>exact absurd au bb|exit i=>rw[au]at E;exact E|ret=>rw[au]at E;exact E
  |succ k=>
   obtain⟨s,ba,O,Q,W,X,Y,t,bi,aQ,bj⟩:=aU c k aH C;have Z:N c=S.H.length:=M.trans (av F S.H d I);rw[Z]at t;obtain⟨aa,ab⟩:=j _ _ _ _ _ W;refine ab X β' A w' aK aM _ fun aO aP bc ad ae ag=>?_;have ak:S.H.length≤O.H.length:=by have bd:=B.len;have:=aa.len;simp only at this;omega
   obtain⟨al,am,an,ao,ap,aq⟩:=xV (n0:=S.H.length) (cG:=[]) (by simp) t ak ae;have ar:=xW aq Y ad;refine⟨k,Om k,T.next c,al,aQ.symm,bi,?_,bj.trans M,ar,am,(B.trans ag).wk aG an ao ap⟩;rw[←aJ,C,aQ];rfl
def aaN(T:qN D)(i:dc P G aj U b f)
 (j:∀k∈T.cG,k.data.len=0)
 (g:∀F H d,T.parse F H=some d→gq none (T.ay d).1 F=some (T.ay d).1∧eX (T.ay d).2 (H++T.cG)=some (T.ay d).2)
 (l:∀d k,T.aS d=true→T.rem d=k+1→∃e c a Q,f (T.ay d).1 ⟨(T.ay d).2,bJ,e,[]⟩=some (.normal,c,a)∧a.ok∧
  gq Q (T.ay (T.next d)).1 c=some (T.ay (T.next d)).1∧lZ ((T.ay d).2.length-T.cG.length) [] Q (T.ay (T.next d)).2 a.H=some (T.ay (T.next d)).2∧T.aS (T.next d)=true∧T.rem (T.next d)=k∧(T.ay (T.next d)).2.length=(T.ay d).2.length)
 (n:∀d,T.aS d=true→T.rem d=0→∃e c a Q,f (T.ay d).1 ⟨(T.ay d).2,bJ,e,[]⟩=some (T.out,c,a)∧a.ok∧(T.out=.normal→False)∧
  gq Q (T.fin d).1 c=some (T.fin d).1∧lZ ((T.ay d).2.length-T.cG.length) [] Q (T.fin d).2 a.H=some (T.fin d).2):
 eH P G aj U b T.told:=by
 refine Q7 T (fun d=>(T.ay d).2.length-T.cG.length) (fun F H d h=>?_) i j g (fun d k h1 h2=>?_) n
 ·have:=(tM (g F H d h).2).1;simp only[this,fA];omega
 ·obtain⟨e,c,a,Q,o,p,q,bf,r,s,t⟩:=l d k h1 h2;exact⟨e,c,a,Q,o,p,q,bf,r,s,by rw[t]⟩
def dy.run{f:FuncId}(y:fX P G call)
 (h:∀args H a r,V args H a=some r→(∀j∈r.cond,j=true)→∃l n e fI o v' d Q R,lC none l args=some e∧eX n H=some fI∧call f e ⟨fI,bJ,o,[]⟩=some (v',d)∧d.ok∧
  lZ H.length [] Q R d.H=some R∧jD Q r.v v'=some r.v∧sn H fI R=some r.H)
 (z:∀args H a r,V args H a=some r→∀(i:Nat) k,r.H[i]? =some k→k.mode=.ro→∃s,H[i]? =some s∧s.mode=.ro):dy P G f V:=by
 intro args H a r t;refine⟨z args H a r t,fun A β w vs B g=>?_⟩;obtain⟨l,n,e,fI,o,v',d,Q,R,h1,h2,h3,h4,C,E,I⟩:=h args H a r t A;obtain⟨x,J,K⟩:=F4 (cG:=[]) (by simp) g (by rw[uJ];exact h2);obtain⟨L,M⟩:=y _ _ _ _ _ h3;have N:aJ β e vs:=by
  refine Q2 (β:=β) (rs:=none) (fun p j an v c O=>?_) h1 B;unfold jD at c;split at c
  ·injection c with c;subst c;exact .aa _
  ·exact xU O c
 obtain⟨S,T⟩:=M h4 β w vs N x;refine⟨S,T.mono ?_⟩;rintro ao w' ⟨u,ap,rfl,W,X,Y⟩;have Z:H.length≤d.H.length:=by have:=L.len;simp only at this;omega
 obtain⟨aa,ab,ad,ae,ag,ak⟩:=xV (n0:=H.length) (cG:=[]) (by simp) C Z X;obtain⟨al,am⟩:=F3 g x J ab ((Y.q K).wk g.fW ad ae ag) I;exact⟨u,aa,rfl,ak _ _ _ _ E W,al,am⟩
end
def qO(n0:Nat)(Q:Option (List Nat))(R:List ah)(v:af)(r:Option (af×ai)):Option (List ah×af×List Bool):=
 match r with
 |none=>none|some (v',a)=>
  match lZ n0 [] Q R a.H with
  |none=>none|some c=>
   match jD Q v v' with
   |none=>none|some v=>some (c,v,a.cond)
def aaO{n0:Nat}{c:List ah}{v u:af}{r:Option (af×ai)}(h:qO n0 Q R v r=some (c,u,cs)):
 ∃v' a,r=some (v',a)∧lZ n0 [] Q R a.H=some c∧jD Q v v'=some u∧a.cond=cs:=by
 unfold qO at h;split at h
 ·cases h
 ·rename_i v' a;split at h
  ·cases h
  ·rename_i g d;split at h
   ·cases h
   ·rename_i i e;simp only[aB,aN]at h;obtain⟨rfl,rfl,rfl⟩:=h;exact⟨v',a,rfl,d,e,rfl⟩
def dy.ends{P:Program}{G:Nat→Option (List af)}{f:FuncId}(n:fX P G call)
 (h:∀args H a r,V args H a=some r→(∀c∈r.cond,c=true)→∃e g d fI j Q R cs,lC none e args=some d∧eX g H=some fI∧qO H.length Q R r.v (call f d ⟨fI,bJ,j,[]⟩)=some (R,r.v,cs)∧
  (∀c∈cs,c=true)∧sn H fI R=some r.H)
 (o:∀args H a r,V args H a=some r→∀(i:Nat) k,r.H[i]? =some k→k.mode=.ro→∃l,H[i]? =some l∧l.mode=.ro):dy P G f V:=by
 refine dy.run n (fun args H a r p q=>?_) o;obtain⟨e,g,d,fI,j,Q,R,cs,h1,h2,h3,h4,s⟩:=h args H a r p q;obtain⟨v',t,u,x,y,z⟩:=aaO h3;exact⟨e,g,d,fI,j,v',t,Q,R,h1,h2,u,fun c A=>h4 c (by rw[←z];exact A),x,y,s⟩
def eg(n0:Nat)(Q:Option (List Nat))(p:aI×List ah)(r:Option (dJ×aI×ai)):Option (dJ×(aI×List ah)×List Bool):=
 match r with
 |none=>none|some (c,d,a)=>
  match gq Q p.1 d with
  |none=>none|some F=>
   match lZ n0 [] Q p.2 a.H with
   |none=>none|some H=>some (c,(F,H),a.cond)
def tN{n0:Nat}{p q:aI×List ah}{r:Option (dJ×aI×ai)}{d:dJ}(h:eg n0 Q p r=some (d,q,cs)):
 ∃c a,r=some (d,c,a)∧gq Q p.1 c=some q.1∧lZ n0 [] Q p.2 a.H=some q.2∧a.cond=cs:=by
 unfold eg at h;split at h
 ·cases h
 ·rename_i i c a;split at h
  ·cases h
  ·rename_i F e;split at h
   ·cases h
   ·rename_i H g;simp only[aB,aN]at h;obtain⟨rfl,rfl,rfl⟩:=h;exact⟨c,a,rfl,e,g,rfl⟩
def aaP{P:Program}{G:Nat→Option (List af)}{aj U:Nat}(T:qN D)(N:D→Nat)(q:∀F H d,T.parse F H=some d→N d=H.length)(r:dc P G aj U b f)
 (s:∀k∈T.cG,k.data.len=0) (t:T.out=.normal→False)
 (u:∀F H d,T.parse F H=some d→gq none (T.ay d).1 F=some (T.ay d).1∧eX (T.ay d).2 (H++T.cG)=some (T.ay d).2)
 (v:∀d k,T.aS d=true→T.rem d=k+1→(∃a Q cs,eg (N d) Q (T.ay (T.next d)) (f (T.ay d).1 ⟨(T.ay d).2,bJ,a,[]⟩)=some (.normal,T.ay (T.next d),cs)∧(∀c∈cs,c=true))∧
  T.aS (T.next d)=true∧T.rem (T.next d)=k∧N (T.next d)=N d)
 (x:∀d,T.aS d=true→T.rem d=0→∃a Q cs,eg (N d) Q (T.fin d) (f (T.ay d).1 ⟨(T.ay d).2,bJ,a,[]⟩)=some (T.out,T.fin d,cs)∧(∀c∈cs,c=true)):
 eH P G aj U b T.told:=by
 refine Q7 T N q r s u (fun d k h1 h2=>?_) (fun d h1 h2=>?_)
 ·obtain⟨⟨a,Q,cs,e,g⟩,y,bf,z⟩:=v d k h1 h2;obtain⟨h,i,j,l,n,o⟩:=tN e;exact⟨a,h,i,Q,j,fun c p=>g c (by rw[←o];exact p),l,n,y,bf,z⟩
 ·obtain⟨a,Q,cs,e,g⟩:=x d h1 h2;obtain⟨h,i,j,l,n,o⟩:=tN e;exact⟨a,h,i,Q,j,fun c p=>g c (by rw[←o];exact p),t,l,n⟩
def Q8{P:Program}{G:Nat→Option (List af)}{aj U:Nat}(T:qN D)(q:dc P G aj U b f)
 (r:∀k∈T.cG,k.data.len=0) (s:T.out=.normal→False)
 (t:∀F H d,T.parse F H=some d→gq none (T.ay d).1 F=some (T.ay d).1∧eX (T.ay d).2 (H++T.cG)=some (T.ay d).2)
 (u:∀d k,T.aS d=true→T.rem d=k+1→(∃a Q cs,eg ((T.ay d).2.length-T.cG.length) Q (T.ay (T.next d)) (f (T.ay d).1 ⟨(T.ay d).2,bJ,a,[]⟩)=some (.normal,T.ay (T.next d),cs)∧(∀c∈cs,c=true))∧
  T.aS (T.next d)=true∧T.rem (T.next d)=k∧(T.ay (T.next d)).2.length=(T.ay d).2.length)
 (v:∀d,T.aS d=true→T.rem d=0→∃a Q cs,eg ((T.ay d).2.length-T.cG.length) Q (T.fin d) (f (T.ay d).1 ⟨(T.ay d).2,bJ,a,[]⟩)=some (T.out,T.fin d,cs)∧(∀c∈cs,c=true)):
 eH P G aj U b T.told:=by
 refine aaN T q r t (fun d k h1 h2=>?_) (fun d h1 h2=>?_)
 ·obtain⟨⟨a,Q,cs,e,g⟩,x,bf,y⟩:=u d k h1 h2;obtain⟨h,i,j,l,n,o⟩:=tN e;exact⟨a,h,i,Q,j,fun c p=>g c (by rw[←o];exact p),l,n,x,bf,y⟩
 ·obtain⟨a,Q,cs,e,g⟩:=v d h1 h2;obtain⟨h,i,j,l,n,o⟩:=tN e;exact⟨a,h,i,Q,j,fun c p=>g c (by rw[←o];exact p),s,l,n⟩
def aaQ{P:Program}{G:Nat→Option (List af)}{aj U:Nat}(T:qN D)(e:dc P G aj U b f)
 (g:∀k∈T.cG,k.data.len=0) (h:T.out=.normal→False)
 (i:∀F H d,T.parse F H=some d→gq none (T.ay d).1 F=some (T.ay d).1∧eX (T.ay d).2 (H++T.cG)=some (T.ay d).2)
 (j:∀d k,T.aS d=true→T.rem d=k+1→(∃a Q cs,eg ((T.ay d).2.length-T.cG.length) Q (T.ay (T.next d)) (f (T.ay d).1 ⟨(T.ay d).2,bJ,a,[]⟩)=some (.normal,T.ay (T.next d),cs)∧(∀c∈cs,c=true))∧
  T.aS (T.next d)=true∧T.rem (T.next d)=k∧(T.ay (T.next d)).2.length=(T.ay d).2.length)
 (l:∀d,T.aS d=true→T.rem d=0→∃a Q cs,eg ((T.ay d).2.length-T.cG.length) Q (T.fin d) (f (T.ay d).1 ⟨(T.ay d).2,bJ,a,[]⟩)=some (T.out,T.fin d,cs)∧(∀c∈cs,c=true)):
 dc P G aj U (.loop b) T.told:=(Q8 T e g h i j l).run
def oX:Nat→Code→Bool
 |0,_=>false|n+1,c=>
  match c with
  |.seq a b=>
   match oX n a with
   |true=>oX n b|false=>false
  |.cond _ a b=>
   match oX n a with
   |true=>oX n b|false=>false
  |.block _ b=>oX n b|.loop b=>oX n b|_=>true
def aaR:∀(R:Nat) (c:Code),oX R c=true→∀k,∀b∈cT k c,b∈cT R c:=by
 intro R
 induction R with
 |zero=>intro c h;simp[oX]at h|succ R e=>
  intro c h k b a;cases k with
  |zero=>simp[cT]at a|succ k=>
   cases c with
   |seq d g=>
    simp only[oX]at h;split at h
    ·rename_i j;simp only[cT,fR]at a⊢;rcases a with a|a
     ·exact .inl (e d j k b a)
     ·exact .inr (e g h k b a)
    ·cases h
   |cond t d g=>
    simp only[oX]at h;split at h
    ·rename_i j;simp only[cT,fR]at a⊢;rcases a with a|a
     ·exact .inl (e d j k b a)
     ·exact .inr (e g h k b a)
    ·cases h
   |block i d=>
    simp only[oX]at h;simp only[cT]at a⊢;exact e d h k b a
   |loop d=>
    simp only[oX]at h;simp only[cT,jN]at a⊢;rcases a with a|a
    ·exact .inl a
    ·exact .inr (e d h k b a)
   |_=>simp[cT]at a
end
section
variable [aR][aF]
def An(m:Mode):Bool:=
 match m with
 |.bn=>true|_=>false
def fK(a b:Spec):Spec:=fun args c d=>
 match a args c d with
 |some r=>some r|none=>b args c d
def dy.or{P:Program}{G:Nat→Option (List af)}{f:FuncId}{a b:Spec}(g:dy P G f a)(i:dy P G f b):dy P G f (fK a b):=by
 intro args d e r c;unfold fK at c;split at c
 ·rename_i j h;injection c with c;subst c;exact g args d e _ h
 ·exact i args d e r c
end
section
variable [aR][aF]
variable{C:eK}{G:Nat→Option (List af)}
def aaS{P:Program}{j:Nat}{dyn:Nat→Bool}:∀(n:Nat) (c:Code),codeOk P j dyn n c=true→∀k,∀b∈cT k c,∃m,codeOk P j dyn m b=true:=by
 intro n
 induction n with
 |zero=>intro c h;simp[codeOk]at h|succ n e=>
  intro c h k b a;cases k with
  |zero=>simp[cT]at a|succ k=>
   cases c with
   |seq d f=>
    simp only[codeOk]at h;split at h
    ·rename_i g;simp only[cT,fR]at a;rcases a with a|a
     ·exact e d g k b a
     ·exact e f h k b a
    ·cases h
   |cond t d f=>
    simp only[codeOk]at h;split at h
    ·rename_i g;simp only[cT,fR]at a;rcases a with a|a
     ·exact e d g k b a
     ·exact e f h k b a
    ·cases h
   |block i d=>
    simp only[codeOk]at h;simp only[cT]at a;exact e d h k b a
   |loop d=>
    simp only[codeOk]at h;simp only[cT,jN]at a;rcases a with rfl|a
    ·exact⟨n,h⟩
    ·exact e d h k b a
   |_=>simp[cT]at a
def aaT:∀(k:Nat) (c b:Code),b∈cT k c→∀d,∀cm∈cT d b,∃a,cm∈cT a c:=by
 intro k
 induction k with
 |zero=>intro c b h;simp[cT]at h|succ k f=>
  intro c b h d cm h2;cases c with
  |seq e g=>
   simp only[cT,fR]at h;rcases h with h|h
   ·obtain⟨a,h3⟩:=f e b h d cm h2;exact⟨a+1,by simp only[cT,fR];exact .inl h3⟩
   ·obtain⟨a,h3⟩:=f g b h d cm h2;exact⟨a+1,by simp only[cT,fR];exact .inr h3⟩
  |cond t e g=>
   simp only[cT,fR]at h;rcases h with h|h
   ·obtain⟨a,h3⟩:=f e b h d cm h2;exact⟨a+1,by simp only[cT,fR];exact .inl h3⟩
   ·obtain⟨a,h3⟩:=f g b h d cm h2;exact⟨a+1,by simp only[cT,fR];exact .inr h3⟩
  |block i e=>
   simp only[cT]at h;obtain⟨a,h3⟩:=f e b h d cm h2;exact⟨a+1,by simp only[cT];exact h3⟩
  |loop e=>
   simp only[cT,jN]at h;rcases h with rfl|h
   ·exact⟨d+1,by simp only[cT,jN];exact .inr h2⟩
   ·obtain⟨a,h3⟩:=f e b h d cm h2;exact⟨a+1,by simp only[cT,jN];exact .inr h3⟩
  |_=>simp[cT]at h
def cR(P:Program)(f:FuncId):Code:=
 match P.funcs[f]? with
 |some fn=>
  match fn.body with
  |some c=>c|none=>.skip
 |none=>.skip
def bN(P:Program)(f:FuncId):Nat:=
 match P.funcs[f]? with
 |some fn=>fn.ntmps|none=>0
def cH(P:Program)(f:FuncId):List Code:=cT 300 (cR P f)
def bg(P:Program)(f i:Nat):Code:=(cH P f).getD i .skip
def aaU [lY C](j:C.dB=G){call:gf}(l:fX C.P G call)(n:oV C.P C.gv)(o:C.P.follows .mixedOrders=true)(p:c6 C G){f:FuncId}(a:qM C f=true)(e i:Nat)(hi:i<(cH C.P f).length):
 dc C.P G (C.aj f) (bN C.P f) (bg C.P f i) (exec C e (bg C.P f i) ⟨call,C.aj f,C.eF f,C.dyn f,C.loop f⟩):=by
 have d:bg C.P f i∈cH C.P f:=by
  unfold bg;rw[dZ,bW hi];exact Wp hi
 revert d;generalize bg C.P f i=b;intro d;unfold qM at a;unfold cH cR at d;unfold bN;split at a
 ·cases a
 rename_i fn g;split at a
 ·cases a
 rename_i c h;split at a
 ·cases a
 simp only[g,h]at d⊢;obtain⟨m,q⟩:=aaS _ _ a _ _ d;exact F0 (C:=C) (G:=G) (bC:=fn.ntmps) j (E:=⟨call,C.aj f,C.eF f,C.dyn f,C.loop f⟩) l n o e m _ q (fun k cm r s t=>by
  obtain⟨u,h3⟩:=aaT _ _ _ d k cm r;exact p f fn c g h u cm h3 s t)
def c6.of(h:∀f,(∀r,C.loop f r=Option.none)∨(oX 300 (cR C.P f)=true∧∀i,i<(cH C.P f).length→∀d,(bX (bg C.P f i)).bind (C.loop f)=some d→dc C.P G (C.aj f) (bN C.P f) (.loop (bg C.P f i)) d)):c6 C G:=by
 intro f fn c e n k b o d a;have g:cR C.P f=c:=by simp only[cR,e,n]
 have p:bN C.P f=fn.ntmps:=by simp only[bN,e]
 rcases h f with h|⟨h1,h2⟩
 ·cases j:bX b with
  |none=>rw[j]at a;cases a
  |some r=>rw[j]at a;simp[h]at a
 ·rw[g]at h1;have q:=aaR 300 c h1 k b o;obtain⟨i,hi,rfl⟩:=List.getElem_of_mem q;have l:cH C.P f=cT 300 c:=by simp only[cH,g]
  have m:bg C.P f i=(cT 300 c)[i]:=by
   unfold bg;rw[l,dZ,bW hi];rfl
  have:=h2 i (by rw[l];exact hi) d (by rw[m];exact a);rw[m,p]at this;exact this
end
section
variable [aR][aF]
def CX(m n b:Nat):Nat:=
 match Nat.beq b m with
 |true=>n|false=>b
def F5(f:Nat→Nat):List (Nat×af)→List (Nat×af)|[]=>[]|(k,v)::r=>(k,oH f v)::F5 f r
def CY(f:Nat→Nat)(a:aI):aI:=⟨lR f a.vars,F5 f a.tmps⟩
def JW(m:Nat)(d:Data)(S:ai):ai:={S with H:=fe ⟨.gen [],.bn⟩ m S.H++[⟨d,.own⟩],low:=Nat.min S.low m}
def Q9(f:Nat→Nat)(t:Nat):∀l:List (Nat×af),kO t (F5 f l)=oH f (kO t l)
 |[]=>rfl|(k,v)::r=>by
  simp only[F5,kO];split
  ·rfl
  ·exact Q9 f t r
def aaV(f:Nat→Nat)(aj:Nat)(a:aI)(t:Nat):(CY f a).get aj t=oH f (a.get aj t):=by
 unfold aI.get CY;split
 ·simp only[vF,cg,dY];cases a.vars[t]? <;>rfl
 ·exact Q9 f t a.tmps
section
variable{G:Nat→Option (List af)}{β:aE}{w:World}
def qP(β:aE)(m n:Nat):aE:=fun b=>if b=n then β m else β b
def aaW{m:Nat}{d:Data}{S:ai}(i:aL G β S.H w)(q:S.H[m]? =some ⟨d,.own⟩):
 aE.le β (qP β m S.H.length)∧aL G (qP β m S.H.length) (JW m d S).H w∧bM β S.H w (qP β m S.H.length) (JW m d S).H w∧∀b e,β b=some e→qP β m S.H.length (CX m S.H.length b)=some e:=by
 have K:m<S.H.length:=by
  rcases cv m S.H.length with h|h
  ·exact h
  ·rw[di h]at q;cases q
 have v:aE.le β (qP β m S.H.length):=fun b e a=>by
  have:=i.fW b e a;unfold qP;rw[ak (by omega)];exact a
 have r:∀b k,(JW m d S).H[b]? =some k→(b=m∧k=⟨.gen [],.bn⟩)∨(b=S.H.length∧k=⟨d,.own⟩)∨(b≠m∧b<S.H.length∧S.H[b]? =some k):=by
  intro b k a
  show _∨_∨_;have a:(fe ⟨.gen [],.bn⟩ m S.H++[⟨d,.own⟩])[b]? =some k:=a;rw[iO]at a;rcases cv b S.H.length with h|h
  ·rw[iE (by rw[lN];exact h)]at a;by_cases j:b=m
   ·subst j;rw[pL h]at a;injection a with a;exact .inl ⟨rfl,a.symm⟩
   ·rw[mw (fB j)]at a;exact .inr (.inr ⟨j,h,a⟩)
  ·rw[ie (by rw[lN];exact h),lN]at a;have:b-S.H.length=0:=by
    rcases qv (b-S.H.length)with h|h
    ·exact h
    ·rw[di (by simp;omega)]at a;cases a
   rw[this]at a;simp at a;exact .inr (.inl ⟨by omega,a.symm⟩)
 have n:∀b,b≠S.H.length→qP β m S.H.length b=β b:=fun b a=>ak a;have s:qP β m S.H.length S.H.length=β m:=av rfl;refine⟨v,⟨fun b k a o=>?_,fun b t k x e z B a C p o f u=>?_,fun b e a=>?_,i.dB,fun b k e a p f g l D=>?_⟩,⟨v,?_,rfl,rfl,rfl,aX _,fun _ _ _=>bL.refl _ _,fun c L p=>?_,fun b a=>n b (by omega)⟩,fun b e a=>?_⟩
 ·rcases r b k a with⟨_,rfl⟩|⟨rfl,rfl⟩|⟨h1,h2,h3⟩
  ·exact absurd rfl o
  ·rw[s];rcases i.blk m _ q o with⟨e,f,cQ⟩|h
   ·exact .inl ⟨e,f,cQ.mono v (aX _) (bL.refl _ _)⟩
   ·exact .inr h
  ·rw[n b (by omega)];rcases i.blk b k h3 o with⟨e,f,cQ⟩|h
   ·exact .inl ⟨e,f,cQ.mono v (aX _) (bL.refl _ _)⟩
   ·exact .inr h
 ·rcases r b k a with⟨_,rfl⟩|⟨rfl,rfl⟩|⟨h1,h2,h3⟩
  ·cases p
  ·rcases r t x C with⟨_,rfl⟩|⟨rfl,rfl⟩|⟨E,I,A⟩
   ·exact absurd rfl o
   ·exact absurd rfl B
   ·rw[s]at f;rw[n t (by omega)]at u;exact i.dO m t _ x e z (fB E) q A rfl o f u
  ·rcases r t x C with⟨_,rfl⟩|⟨rfl,rfl⟩|⟨E,I,A⟩
   ·exact absurd rfl o
   ·rw[s]at u;rw[n b (by omega)]at f;exact i.dO b m k _ e z h1 h3 q p o f u
   ·rw[n b (by omega)]at f;rw[n t (by omega)]at u;exact i.dO b t k x e z B h3 A p o f u
 ·show b<(fe (⟨.gen [],.bn⟩:ah) m S.H++[(⟨d,.own⟩:ah)]).length;rw[iO,fA,lN];by_cases j:b=S.H.length
  ·subst j;simp
  ·rw[n b j]at a;have:=i.fW b e a;omega
 ·rcases r b k a with⟨_,rfl⟩|⟨rfl,rfl⟩|⟨h1,h2,h3⟩
  ·cases p
  ·rw[s]at f;exact i.apart m _ e q rfl f g l D
  ·rw[n b (by omega)]at f;exact i.apart b k e h3 p f g l D
 ·show S.H.length≤(fe (⟨.gen [],.bn⟩:ah) m S.H++[(⟨d,.own⟩:ah)]).length;rw[iO,fA,lN];omega
 ·obtain⟨b,k,e,J,F,y,dn⟩:=p;rcases r b k J with⟨_,rfl⟩|⟨rfl,rfl⟩|⟨h1,h2,h3⟩
  ·cases F
  ·rw[s]at y;exact⟨m,_,e,q,rfl,y,dn⟩
  ·rw[n b (by omega)]at y;exact⟨b,k,e,h3,F,y,dn⟩
 ·unfold CX;split
  ·rename_i j;have j:b=m:=by simpa using j
   subst j;rw[s];exact a
  ·rw[n b (by have:=i.fW b e a;omega)];exact a
structure CZ(D:Type)where
 T:qN D
 m:Nat
 lD:D→aI×List ah
def CZ.told{D:Type}(M:CZ D):cP:=fun a S=>
 match M.T.parse a S.H with
 |none=>none|some d=>
  match sn S.H (M.lD d).2 (M.T.fin (iter M.T.next (M.T.rem d) d)).2 with
  |none=>none|some b=>some (M.T.out,(M.T.fin (iter M.T.next (M.T.rem d) d)).1,{H:=b,low:=0,dec:=S.dec,cond:=M.T.aS d::S.cond})
def aaX{P:Program}{aj s:Nat}{D:Type}(M:CZ D)(N:D→Nat){b:Code}{f:aI→ai→Option (dJ×aI×ai)}(x:dc P G aj s b f)
 (aX:∀C E d,M.T.parse C E=some d→gq none (M.lD d).1 C=some (M.lD d).1∧eX (M.lD d).2 E=some (M.lD d).2∧N d=E.length∧
  ∃u,(M.lD d).2[M.m]? =some ⟨u,.own⟩∧M.T.ay d=(CY (CX M.m E.length) (M.lD d).1,fe ⟨.gen [],.bn⟩ M.m (M.lD d).2++[⟨u,.own⟩]))
 (aY:∀d k,M.T.aS d=true→M.T.rem d=k+1→∃y l g rs,f (M.T.ay d).1 ⟨(M.T.ay d).2,bJ,y,[]⟩=some (.normal,l,g)∧g.ok∧
  gq rs (M.T.ay (M.T.next d)).1 l=some (M.T.ay (M.T.next d)).1∧lZ (N d) [] rs (M.T.ay (M.T.next d)).2 g.H=some (M.T.ay (M.T.next d)).2∧M.T.aS (M.T.next d)=true∧M.T.rem (M.T.next d)=k∧N (M.T.next d)=N d)
 (aZ:∀d,M.T.aS d=true→M.T.rem d=0→∃y l g rs,f (M.T.ay d).1 ⟨(M.T.ay d).2,bJ,y,[]⟩=some (M.T.out,l,g)∧g.ok∧(M.T.out=.normal→False)∧
  gq rs (M.T.fin d).1 l=some (M.T.fin d).1∧lZ (N d) [] rs (M.T.fin d).2 g.H=some (M.T.fin d).2):
 eH P G aj s b M.told:=by
 intro C S br l g h;unfold CZ.told at h;split at h
 ·cases h
 rename_i d a0;split at h
 ·cases h
 rename_i a1 Q;simp only[aB,aN]at h;obtain⟨rfl,rfl,rfl⟩:=h;obtain⟨a2,R,aA,u,a3,aC⟩:=aX C S.H d a0;have a4:eX (M.lD d).2 (S.H++[])=some (M.lD d).2:=by rw[uJ];exact R
 obtain⟨bs,bt,bu,aD⟩:=Am Q;have a5:(M.lD d).2.length=S.H.length:=(tM R).1;refine⟨⟨fun ok aG U=>ok aG (m9 _ U),kI _,by simp only;omega,fun b x a6=>absurd a6 (ox _),fun b k e V=>?_,fun b k e V=>?_⟩,fun ok β a w a7 W bv aH=>?_⟩
 ·simp only[cg]at e⊢;have x:b<S.H.length:=(dX.1 e).1;have aJ:b<a1.length:=by omega
  rcases aD b _ (bW aJ)with⟨_,_,z⟩|⟨j,_⟩
  ·obtain⟨a8,X,F⟩:=z x;obtain⟨bw,I,o⟩:=(tM R).2 b a8 X;rw[e]at I;injection I with I;subst I;rcases o with o|⟨o,_⟩
   ·rw[F]at o;cases o
   ·exact absurd V o
  ·rw[e]at j;rw[j,bW aJ]
 ·simp only[cg]at e⊢;rcases aD b k e with⟨_,A,_⟩|⟨j,_⟩
  ·exact absurd V A
  ·exact j
 ·have a9:M.T.aS d=true:=ok _ (lO ..);obtain⟨aK,ba,bx⟩:=F4 (cG:=[]) (by intro k e;cases e) W a4;have Y:cL aj s β (M.lD d).1 a:=by
   refine xW (β:=β) (β':=β) (rs:=none) (fun p aG bz v r U=>?_) a2 a7;unfold jD at r;split at r
   ·injection r with r;subst r;exact .aa _
   ·exact xU U r
  have aM:∀b bb,β b=some bb→b<S.H.length:=W.fW;obtain⟨j,A,z,bf⟩:=aaW (S:={H:=(M.lD d).2,low:=0,dec:=[],cond:=[]}) (m:=M.m) (d:=u) aK a3;simp only at j A z bf;rw[a5]at j A z bf;have X:(M.T.ay d).1=CY (CX M.m S.H.length) (M.lD d).1:=by rw[aC]
  have F:(M.T.ay d).2=fe ⟨.gen [],.bn⟩ M.m (M.lD d).2++[⟨u,.own⟩]:=by rw[aC]
  have bc:cL aj s (qP β M.m S.H.length) (M.T.ay d).1 a:=by
   rw[X];refine⟨fun t=>?_,Y.size,Y.defers⟩;rw[aaV];exact vG bf (Y.val t)
  have bd:aL G (qP β M.m S.H.length) (M.T.ay d).2 w:=by rw[F];exact A
  have bg:gL S.H.length β (M.lD d).2 w (qP β M.m S.H.length) (M.T.ay d).2 w:=by
   rw[F];exact z.q (by omega)
  refine QI (fun n J w'=>∃c β',n=M.T.rem c∧M.T.aS c=true∧iter M.T.next (M.T.rem c) c=iter M.T.next (M.T.rem d) d∧N c=N d∧cL aj s β' (M.T.ay c).1 J∧aL G β' (M.T.ay c).2 w'∧gL S.H.length β (M.lD d).2 w β' (M.T.ay c).2 w')
   (n:=M.T.rem d) ⟨d,_,rfl,a9,rfl,rfl,bc,bd,bg⟩ ?_
  rintro n J w' ⟨c,β',rfl,aO,aP,Z,aQ,aT,K⟩;cases L:M.T.rem c with
  |zero=>
   obtain⟨y,bh,aa,rs,ab,ad,bi,ae,B⟩:=aZ c aO L;have ag:N c=S.H.length:=Z.trans aA;rw[ag]at B;obtain⟨ah,ak⟩:=x _ _ _ _ _ ab;refine ak ad β' J w' aQ aT _ fun aU aV bj al am an=>?_;have ao:S.H.length≤aa.H.length:=by have bk:=K.len;have:=ah.len;simp only at this;omega
   obtain⟨ap,aq,ar,au,av,aw⟩:=xV (n0:=S.H.length) (cG:=[]) (by simp) B ao am;have ax:=xW aw ae al;have bl:M.T.fin (iter M.T.next (M.T.rem d) d)=M.T.fin c:=by rw[←aP,L];rfl
   rw[bl]at Q aH;obtain⟨bm,bo⟩:=F3 W aK ba aq ((K.trans an).wk aM ar au av) Q;have O:=aH aU aV ap ax bm bo;cases az:M.T.out with
   |normal=>exact absurd az bi|exit i=>rw[az]at O;exact O|ret=>rw[az]at O;exact O
  |succ k=>
   obtain⟨y,bh,aa,rs,ab,ad,ae,B,bp,aW,bq⟩:=aY c k aO L;have ag:N c=S.H.length:=Z.trans aA;rw[ag]at B;obtain⟨ah,ak⟩:=x _ _ _ _ _ ab;refine ak ad β' J w' aQ aT _ fun aU aV bj al am an=>?_;have ao:S.H.length≤aa.H.length:=by have bk:=K.len;have:=ah.len;simp only at this;omega
   obtain⟨ap,aq,ar,au,av,aw⟩:=xV (n0:=S.H.length) (cG:=[]) (by simp) B ao am;have ax:=xW aw ae al;refine⟨k,Om k,M.T.next c,ap,aW.symm,bp,?_,bq.trans Z,ax,aq,(K.trans an).wk aM ar au av⟩;rw[←aP,L,aW];rfl
end
end
section
variable [aR][aF]
variable{D:Type}{n:Nat}{f:aI→ai→Option (dJ×aI×ai)}{b:Code}{Q:Nat}
def Ao(p a:N):c7 (c7 p a) a=c7 p a:=by
 cases p<;>cases a<;>rfl
def aaY:∀(p a:Option N),Al (Al p a) a=Al p a|none,_=>rfl|some p,some a=>by simp only[Al,Ao]|some p,none=>rfl
mutual
def vJ:∀e:af,b9 e e=some e
 |.atom .aa=>rfl|.atom (.bool (.c _))=>rfl|.atom (.bool (.s _))=>rfl|.atom (.str _)=>rfl|.atom .mA=>rfl|.atom .cI=>rfl|.atom .fC=>rfl|.atom .mB=>rfl|.atom (.exact _)=>rfl|.num (.int _ (.c _))=>rfl|.num (.int _ (.s _))=>rfl|.num (.bQ _)=>rfl|.num (.cX _)=>rfl|.num (.aD _)=>rfl|.num (.au _)=>rfl|.ref (.ptr b a)=>by cases a<;>rfl
 |.ref (.eE b a)=>rfl|.ref (.gs g a l)=>rfl|.ref (.sm b l h)=>by cases l<;>rfl
 |.ref (.sl b a l none)=>by cases a<;>cases l<;>rfl
 |.ref (.sl b a l (some c))=>by cases a<;>cases l<;>cases c<;>rfl
 |.agg d=>by simp only[b9,JX d]|.obj .bx d=>by simp only[b9,JX d]|.obj (.ig _) d=>by simp only[b9]|.obj (.fn _ _) d=>by simp only[b9]
def JX:∀a:List af,iP a a=some a|[]=>rfl|c::a=>by simp only[iP,vJ c,JX a]
end
def aaZ{p:Ev}{d a:af}(h:vI p d=some a):b9 a d=some a:=by
 cases p with
 |aa=>
  simp only[vI,aB]at h;subst h;rfl
 |bool b=>
  cases b with
  |c _=>
   simp only[vI,aB]at h;subst h;exact vJ _
  |s _=>
   simp only[vI]at h;split at h
   ·cases h;rfl
   ·cases h
 |_=>simp only[vI,aB]at h;subst h;exact vJ _
def aa0{p:bh}{e d:af}(h:nG p e=some d):b9 d e=some d:=by
 cases p with
 |int _ z=>
  cases z with
  |c _=>
   simp only[nG,aB]at h;subst h;exact vJ _
  |s _=>
   simp only[nG]at h;split at h
   ·cases h;rfl
   ·cases h
 |bQ _=>
  simp only[nG,bU]at h;obtain⟨v,a,rfl⟩:=h;simp only[b9,nG,a,ia]
 |cX _=>
  simp only[nG,bU]at h;obtain⟨v,a,rfl⟩:=h;simp only[b9,nG,a,ia]
 |aD _=>
  simp only[nG,bU]at h;obtain⟨v,a,rfl⟩:=h;simp only[b9,nG,a,ia]
 |au _=>
  simp only[nG,bU]at h;obtain⟨v,a,rfl⟩:=h;simp only[b9,nG,a,ia]
def aa1{p:Ref}{e a:af}(h:nH p e=some a):b9 a e=some a:=by
 cases p with
 |ptr b d=>
  simp only[nH]at h;split at h
  ·cases h;simp only[b9,nH,Ao]
  ·cases h
 |eE b d=>
  simp only[nH,aB]at h;subst h;exact vJ _
 |gs b d l=>
  simp only[nH,aB]at h;subst h;exact vJ _
 |sm b l g=>
  simp only[nH]at h;split at h
  ·cases h;simp only[b9,nH,Ao]
  ·cases h;simp only[b9,nH,Ao]
  ·cases h
 |sl b d l c=>
  simp only[nH]at h;split at h
  ·cases h;simp only[b9,nH,Ao,aaY]
  ·cases h;simp only[b9,nH,Ao]
  ·cases h
mutual
def Ra:∀(p c a:af),b9 p c=some a→b9 a c=some a
 |.atom p,c,a,h=>aaZ h|.num p,c,a,h=>aa0 h|.ref p,c,a,h=>aa1 h|.agg d,c,a,h=>by
  simp only[b9]at h;split at h
  ·rename_i e;split at h
   ·rename_i g i;cases h;simp only[b9,C0 d e g i]
   ·cases h
  ·cases h
 |.obj t d,c,a,h=>by
  cases t with
  |bx=>
   simp only[b9]at h;split at h
   ·rename_i e;split at h
    ·rename_i g i;cases h;simp only[b9,C0 d e g i]
    ·cases h
   ·cases h
  |ig _=>simp only[b9,aB]at h;subst h;exact vJ _|fn _ _=>simp only[b9,aB]at h;subst h;exact vJ _
def C0:∀(c d a:List af),iP c d=some a→iP a d=some a
 |[],[],a,h=>by simp only[iP,aB]at h;subst h;rfl|[],_::_,a,h=>by simp only[iP,reduceCtorEq]at h|p::c,[],a,h=>by simp only[iP,reduceCtorEq]at h|p::c,e::d,a,h=>by
  simp only[iP]at h;split at h
  ·cases h
  ·rename_i g i;split at h
   ·cases h
   ·rename_i j k;cases h;simp only[iP,Ra p e g i,C0 c d j k]
end
def Rb{p d c:Data}(h:kq p d=some c):kq c d=some c:=by
 cases p with
 |gen e=>
  simp only[kq]at h;split at h
  ·simp only[bU]at h;obtain⟨l,a,rfl⟩:=h;simp only[kq,C0 _ _ _ a,ia]
  ·cases h
 |ag _=>
  simp only[kq,bU]at h;obtain⟨l,a,rfl⟩:=h;simp only[kq,a,ia]
 |eY _=>
  simp only[kq,bU]at h;obtain⟨l,a,rfl⟩:=h;simp only[kq,a,ia]
 |bt _=>
  simp only[kq,bU]at h;obtain⟨l,a,rfl⟩:=h;simp only[kq,a,ia]
 |spot _ _ _=>cases h
 |fc _ g=>
  simp only[kq]at h;split at h
  ·simp only[bU]at h;obtain⟨l,a,rfl⟩:=h;simp only[kq,C0 _ _ _ a,ia]
  ·cases h
 |lim _ _=>
  simp only[kq]at h;split at h
  ·cases h;rfl
  ·cases h
def aa2{p k a:ah}(h:eM p k=some a):eM a k=some a:=by
 obtain⟨g,e⟩:=p;obtain⟨i,j⟩:=k;cases e with
 |bn=>simp only[eM,aB]at h;subst h;rfl|ro=>
  simp only[eM]at h;split at h
  ·cases h
  ·rename_i l;split at h
   ·rename_i d c;cases h;simp only[eM,Rb c]
   ·cases h
 |own=>
  simp only[eM]at h;split at h
  ·split at h
   ·rename_i d c;cases h;simp only[eM,Rb c]
   ·cases h
  ·cases h
def vK:∀(a d c:List ah),eX a d=some c→eX c d=some c∧c.length=d.length
 |[],[],e,h=>by simp only[eX,aB]at h;subst h;exact⟨rfl,rfl⟩|[],_::_,e,h=>by simp only[eX,reduceCtorEq]at h|p::a,[],e,h=>by simp only[eX,reduceCtorEq]at h|p::a,l::g,e,h=>by
  simp only[eX]at h;split at h
  ·cases h
  ·rename_i m i;split at h
   ·cases h
   ·rename_i j k;cases h;obtain⟨h1,h2⟩:=vK a g j k;exact⟨by simp only[eX,aa2 i,h1],by simp only[iY,h2]⟩
def aa3{a c:af}(h:b9 a c=some a):jD none a c=some a:=by
 unfold jD;split
 ·rfl
 ·exact h
def Rc{p c a:af}(h:jD none p c=some a):jD none a c=some a:=by
 unfold jD at h;split at h
 ·cases h;rfl
 ·exact aa3 (Ra _ _ _ h)
def Re:∀(c d a:List af),lC none c d=some a→lC none a d=some a
 |[],[],a,h=>by simp only[lC,aB]at h;subst h;rfl|[],_::_,a,h=>by simp only[lC,reduceCtorEq]at h|p::c,[],a,h=>by simp only[lC,reduceCtorEq]at h|p::c,j::d,a,h=>by
  simp only[lC]at h;split at h
  ·cases h
  ·rename_i k e;split at h
   ·cases h
   ·rename_i g i;cases h;simp only[lC,Rc e,Re c d g i]
def Rf(c:List (Nat×af)):∀(d a:List (Nat×af)),sk none c d=some a→sk none c a=some a
 |[],a,h=>by simp only[sk,aB]at h;subst h;rfl|(t,p)::d,a,h=>by
  simp only[sk]at h;split at h
  ·cases h
  ·rename_i j e;split at h
   ·cases h
   ·rename_i g i;cases h;simp only[sk,Rc e,Rf c d g i]
def JY{p c a:aI}(h:gq none p c=some a):gq none a c=some a:=by
 unfold gq at h;split at h
 ·cases h
 ·rename_i vs d;split at h
  ·cases h
  ·rename_i g e;cases h;simp only[gq,Re _ _ _ d,Rf _ _ _ e]
def JZ(v:af):Option (BitVec 8):=
 match v with
 |.num (.bQ a)=>some a|_=>none
def jY(v:U 8)(n:Nat):List af:=(List.range n).map fun i=>.num (.bQ (v.l.getD i 0#8))
def xX(n:Nat)(a:List af):Option (U 8):=
 match cU JZ a with
 |some l=>
  match Nat.beq l.length n with
  |true=>some (U.of l)|false=>none
 |none=>none
def Rg:∀{c:List af} {l:List (BitVec 8)},cU JZ c=some l→c=l.map fun d=>.num (.bQ d)
 |[],l,h=>by simp[cU]at h;subst h;rfl|d::c,l,h=>by
  simp only[cU]at h;split at h
  ·cases h
  ·rename_i g a;split at h
   ·cases h
   ·rename_i i e;cases h;rw[Rg e];unfold JZ at a;split at a
    ·injection a with a;subst a;rfl
    ·cases a
def C1{c:List af}{v:U 8}(h:xX n c=some v):c=jY v n∧v.n=n:=by
 unfold xX at h;split at h
 ·rename_i l d;split at h
  ·rename_i a;cases h;have a:l.length=n:=by simpa using a
   refine⟨?_,a⟩;rw[Rg d];subst a;unfold jY;refine uH fun i=>?_;rw[dY,dY];rcases cv i l.length with hi|hi
   ·simp[hi,U.of]
   ·simp[hi]
  ·cases h
 ·cases h
def J0(v:af):Option (BitVec 64):=
 match v with
 |.num (.au a)=>some a|_=>none
def dS(v:U 64)(n:Nat):List af:=(List.range n).map fun i=>.num (.au (v.l.getD i 0#64))
def jZ(n:Nat)(a:List af):Option (U 64):=
 match cU J0 a with
 |some l=>
  match Nat.beq l.length n with
  |true=>some (U.of l)|false=>none
 |none=>none
def Rh:∀{c:List af} {l:List (BitVec 64)},cU J0 c=some l→c=l.map fun d=>.num (.au d)
 |[],l,h=>by simp[cU]at h;subst h;rfl|d::c,l,h=>by
  simp only[cU]at h;split at h
  ·cases h
  ·rename_i g a;split at h
   ·cases h
   ·rename_i i e;cases h;rw[Rh e];unfold J0 at a;split at a
    ·injection a with a;subst a;rfl
    ·cases a
def kW{c:List af}{v:U 64}(h:jZ n c=some v):c=dS v n∧v.n=n:=by
 unfold jZ at h;split at h
 ·rename_i l d;split at h
  ·rename_i a;cases h;have a:l.length=n:=by simpa using a
   refine⟨?_,a⟩;rw[Rh d];subst a;unfold dS;refine uH fun i=>?_;rw[dY,dY];rcases cv i l.length with hi|hi
   ·simp[hi,U.of]
   ·simp[hi]
  ·cases h
 ·cases h
def jE:List Int→List af|[]=>[]|n::r=>.num (.int .i64 (.c n))::jE r
def mU:List af→List Int→Bool
 |[],l=>
  match l with
  |[]=>true|_=>false
 |a::d,l=>
  match l with
  |[]=>false|n::r=>
   match a with
   |.num (.int .i64 (.c m))=>
    match kM m n with
    |true=>mU d r|false=>false
   |_=>false
def qQ:∀{a:List af} {l:List Int},mU a l=true→a=jE l
 |[],[],_=>rfl|[],_::_,h=>by simp[mU]at h|_::_,[],h=>by simp[mU]at h|e::a,n::r,h=>by
  simp only[mU]at h;split at h
  ·split at h
   ·rename_i m d;have c:=d;rw[nu]at c;rw[eq_of_beq c,qQ h];rfl
   ·cases h
  ·cases h
abbrev cp:ah:=⟨.gen [],.bn⟩
abbrev af.aq(a:Int):af:=.num (.int .i64 (.s a))
abbrev af.J(a:Int):af:=.num (.int .i64 (.c a))
abbrev af.P(b:Nat):af:=.ref (.ptr b (.c 0))
instance{k:Nat}:OfNat (U k) 0:=⟨U.zero k 0⟩
structure bT(D:Type)where
 d0:D
 read:List af→List ah→Option D
 args:D→List af
 heap:D→List ah
 out:D→List ah:=heap
 val:D→af
 aS:D→Bool
 qR:List af:=args d0
 qS:List ah:=heap d0
def bT.Rd(c:bT D):Prop:=∀a e d,c.read a e=some d→a=c.args d∧e=c.heap d
abbrev nI(n0:Nat)(c:Option (List Nat))(a:List ah)(v:af)(r:Option (af×ai))(cs:List Bool):Prop:=qO n0 c a v r=some (a,v,cs)
abbrev jF(n0:Nat)(a:Option (List Nat))(p:aI×List ah)(r:Option (dJ×aI×ai))(c:dJ)(cs:List Bool):Prop:=eg n0 a p r=some (c,p,cs)
abbrev jf(ay:D→aI×List ah)(n0:Nat)(d:D)(a:Option (List Nat))(p:aI×List ah)(call:aI→ai→Option (dJ×aI×ai))(c:List Bool)(e:dJ)(cs:List Bool):Prop:=jF n0 a p (call (ay d).1 ⟨(ay d).2,bJ,c,[]⟩) e cs
def bE:Nat→Nat→List Bool|0,_=>[]|n+1,k=>Nat.beq (k%2) 1::bE n (k/2)
abbrev bV(a:Int):Bool:=decide ((((-9223372036854775808):Int)≤a∧a≤9223372036854775807))
abbrev b6(n:Nat):Option (List Nat):=some (List.range n)
abbrev bT.cB(c:bT D)(d:D)(e:Option (List Nat))(call:List af→ai→Option (af×ai))(g:List Bool)(a:List ah)(v:af)(cs:List Bool):Prop:=qO (c.heap d).length e a v (call (c.args d) ⟨c.heap d,bJ,g,[]⟩)=some (a,v,cs)
abbrev bT.fS(c:bT D)(d:D)(a:Option (List Nat))(call:List af→ai→Option (af×ai))(e:List Bool)(cs:List Bool):Prop:=c.cB d a call e (c.out d) (c.val d) cs
def bT.spec(c:bT D):Spec:=fun args e g=>
 match lC none c.qR args with
 |none=>none|some a=>
  match eX c.qS e with
  |none=>none|some h=>
   match c.read a h with
   |none=>none|some d=>
    match sn e (c.heap d) (c.out d)with
    |none=>none|some i=>some ⟨c.val d,i,g,[c.aS d]⟩
def bT.ok(c:bT D){P:Program}{G:Nat→Option (List af)}{f:FuncId}{call:gf}(q:fX P G call)
 (s:∀a g d,c.read a g=some d→a=c.args d∧g=c.heap d)
 (t:∀d,c.aS d=true→∃h j cs,qO (c.heap d).length j (c.out d) (c.val d) (call f (c.args d) ⟨c.heap d,bJ,h,[]⟩)=some (c.out d,c.val d,cs)∧∀u∈cs,u=true):
 dy P G f c.spec:=by
 refine dy.ends q (fun args v h r e w=>?_) (fun args v h r e i k x m=>?_)
 ·unfold bT.spec at e;split at e
  ·cases e
  rename_i a y;split at e
  ·cases e
  rename_i g o;split at e
  ·cases e
  rename_i d p;split at e
  ·cases e
  rename_i z l;injection e with e;subst e;obtain⟨rfl,rfl⟩:=s a g d p;obtain⟨A,j,cs,h1,h2⟩:=t d (w _ (tc.2 rfl));refine⟨c.qR,c.qS,c.args d,c.heap d,A,j,c.out d,cs,y,o,?_,h2,l⟩;rw[←(vK _ _ _ o).2];exact h1
 ·unfold bT.spec at e;split at e
  ·cases e
  split at e
  ·cases e
  split at e
  ·cases e
  rename_i d p;split at e
  ·cases e
  rename_i z l;injection e with e;subst e;rcases(Am l).2.2.2 i k x with⟨_,h2,_⟩|⟨h1,_⟩
  ·exact absurd m h2
  ·exact⟨k,h1,m⟩
structure eN(D:Type)where
 d0:D
 read:aI→List ah→Option D
 cG:List ah:=[]
 ay:D→aI×List ah
 next:D→D
 rem:D→Nat
 aS:D→Bool
 out:dJ
 fin:D→aI×List ah:=ay
 qR:aI:=(ay d0).1
 qS:List ah:=(ay d0).2
def eN.Rd(a:eN D):Prop:=∀c e d,a.read c e=some d→(c,e)=a.ay d
abbrev eN.cB(a:eN D)(d:D)(c:Option (List Nat))(p:aI×List ah)(call:aI→ai→Option (dJ×aI×ai))(e:List Bool)(g:dJ)(cs:List Bool):Prop:=eg ((a.ay d).2.length-a.cG.length) c p (call (a.ay d).1 ⟨(a.ay d).2,bJ,e,[]⟩)=some (g,p,cs)
def F6{c:Type}{l a b:List c}(h:l.take n=a)(k:l.drop n=b):l=a++b:=(Em n l).symm.trans (congr (iZ HAppend.hAppend h) k)
def eN.T(a:eN D):qN D where
 parse c d:=
  match gq none a.qR c with
  |none=>none|some e=>
   match eX a.qS (d++a.cG)with
   |none=>none|some g=>a.read e g
 cG:=a.cG
 ay:=a.ay
 next:=a.next
 rem:=a.rem
 aS:=a.aS
 out:=a.out
 fin:=a.fin
def eN.j0(a:eN D){P:Program}{G:Nat→Option (List af)}{aj:Nat}(o:dc P G aj Q b f)
 (p:∀k∈a.cG,k.data.len=0) (q:a.out=.normal→False)
 (r:∀c e d,a.read c e=some d→(c,e)=a.ay d)
 (s:∀d k,a.aS d=true→a.rem d=k+1→(∃g i cs,eg ((a.ay d).2.length-a.cG.length) i (a.ay (a.next d)) (f (a.ay d).1 ⟨(a.ay d).2,bJ,g,[]⟩)=some (.normal,a.ay (a.next d),cs)∧(∀j∈cs,j=true))∧
  a.aS (a.next d)=true∧a.rem (a.next d)=k∧(a.ay (a.next d)).2.length=(a.ay d).2.length)
 (t:∀d,a.aS d=true→a.rem d=0→∃g i cs,eg ((a.ay d).2.length-a.cG.length) i (a.fin d) (f (a.ay d).1 ⟨(a.ay d).2,bJ,g,[]⟩)=some (a.out,a.fin d,cs)∧(∀j∈cs,j=true)):
 eH P G aj Q b a.T.told:=by
 refine Q8 a.T o p q (fun c e d h=>?_) s t;have h:(match gq none a.qR c with
  |none=>none|some l=>
   match eX a.qS (e++a.cG)with
   |none=>none|some m=>a.read l m)=some d:=h
 split at h
 ·cases h
 rename_i l u;split at h
 ·cases h
 rename_i m v;have w:=r l m d h
 show gq none (a.ay d).1 c=some (a.ay d).1∧eX (a.ay d).2 (e++a.cG)=some (a.ay d).2;rw[←w];exact⟨JY u,(vK _ _ _ v).1⟩
def eN.aa4(a:eN D)(N:D→Nat){P:Program}{G:Nat→Option (List af)}{aj:Nat}(q:dc P G aj Q b f)
 (r:∀k∈a.cG,k.data.len=0) (s:a.out=.normal→False)
 (t:∀e c d,a.read e c=some d→(e,c)=a.ay d∧N d+a.cG.length=c.length)
 (u:∀d k,a.aS d=true→a.rem d=k+1→(∃g i cs,eg (N d) i (a.ay (a.next d)) (f (a.ay d).1 ⟨(a.ay d).2,bJ,g,[]⟩)=some (.normal,a.ay (a.next d),cs)∧(∀j∈cs,j=true))∧
  a.aS (a.next d)=true∧a.rem (a.next d)=k∧N (a.next d)=N d)
 (v:∀d,a.aS d=true→a.rem d=0→∃g i cs,eg (N d) i (a.fin d) (f (a.ay d).1 ⟨(a.ay d).2,bJ,g,[]⟩)=some (a.out,a.fin d,cs)∧(∀j∈cs,j=true)):
 eH P G aj Q b a.T.told:=by
 have o:∀e c d,a.T.parse e c=some d→(gq none (a.ay d).1 e=some (a.ay d).1∧eX (a.ay d).2 (c++a.cG)=some (a.ay d).2)∧N d=c.length:=by
  intro e c d h;have h:(match gq none a.qR e with
   |none=>none|some l=>
    match eX a.qS (c++a.cG)with
    |none=>none|some m=>a.read l m)=some d:=h
  split at h
  ·cases h
  rename_i l w;split at h
  ·cases h
  rename_i m p;obtain⟨x,z⟩:=t l m d h;have y:=(vK _ _ _ p).2;rw[fA]at y;refine⟨?_,by omega⟩;rw[←x];exact⟨JY w,(vK _ _ _ p).1⟩
 exact aaP a.T N (fun e c d h=>(o e c d h).2) q r s (fun e c d h=>(o e c d h).1) u v
def eN.M(a:eN D)(m:Nat)(c:D→aI×List ah):CZ D:=⟨a.T,m,c⟩
def eN.Ri(a:eN D)(m n:Nat)(c:D→aI×List ah){P:Program}{G:Nat→Option (List af)}{aj:Nat}(E:dc P G aj Q b f)
 (F:a.cG=[]) (H:a.out=.normal→False)
 (I:∀o e d,a.read o e=some d→(o,e)=c d)
 (J:∀d,(c d).2.length=n∧∃u,(c d).2[m]? =some ⟨u,.own⟩∧a.ay d=(CY (CX m n) (c d).1,fe ⟨.gen [],.bn⟩ m (c d).2++[⟨u,.own⟩]))
 (K:∀d k,a.aS d=true→a.rem d=k+1→(∃g i cs,eg n i (a.ay (a.next d)) (f (a.ay d).1 ⟨(a.ay d).2,bJ,g,[]⟩)=some (.normal,a.ay (a.next d),cs)∧(∀j∈cs,j=true))∧
  a.aS (a.next d)=true∧a.rem (a.next d)=k)
 (L:∀d,a.aS d=true→a.rem d=0→∃g i cs,eg n i (a.fin d) (f (a.ay d).1 ⟨(a.ay d).2,bJ,g,[]⟩)=some (a.out,a.fin d,cs)∧(∀j∈cs,j=true)):
 eH P G aj Q b (a.M m c).told:=by
 refine aaX (a.M m c) (fun _=>n) E (fun o e d h=>?_) (fun d k h1 h2=>?_) (fun d h1 h2=>?_)
 ·have h:(match gq none a.qR o with
   |none=>none|some l=>
    match eX a.qS (e++a.cG)with
    |none=>none|some r=>a.read l r)=some d:=h
  rw[F,uJ]at h;split at h
  ·cases h
  rename_i l N;split at h
  ·cases h
  rename_i r B;have s:=I l r d h;obtain⟨p,u,q,t⟩:=J d;have C:e.length=n:=by
   rw[←(vK _ _ _ B).2,show r=(c d).2 by rw[←s]];exact p
  show gq none (c d).1 o=some (c d).1∧eX (c d).2 e=some (c d).2∧n=e.length∧_;refine⟨?_,?_,C.symm,u,q,?_⟩
  ·rw[←s];exact JY N
  ·rw[←s];exact(vK _ _ _ B).1
  ·rw[C];exact t
 ·obtain⟨⟨g,i,cs,p,q⟩,t,bf⟩:=K d k h1 h2;obtain⟨l,v,w,x,y,z⟩:=tN p;exact⟨g,l,v,i,w,fun j A=>q j (by rw[←z];exact A),x,y,t,bf,rfl⟩
 ·obtain⟨g,i,cs,p,q⟩:=L d h1 h2;obtain⟨l,v,w,x,y,z⟩:=tN p;exact⟨g,l,v,i,w,fun j A=>q j (by rw[←z];exact A),H,x,y⟩
end
section
variable [aR][aF]
open Go.ChangeShapes Go.WideShapes Go.RowKit
variable{R:World}{a:Addr}{i:Nat}{z:Int}
def nJ(Q R:World):Prop:=R.os=Q.os∧R.output=Q.output∧Q.heap.size≤R.heap.size∧∀c,c<Q.heap.size→R.heap[c]? =Q.heap[c]?
def nJ.kept{Q:World}(h:nJ Q R)(tu:MemPlace→Prop):Q.keptBut R tu:=by
 refine⟨h.1,h.2.1,fun i hi=>?_⟩;have:=(World.keptBut_refl Q tu).2.2 i hi;rw[h.2.2.2 i hi];exact this
def nJ.cell{Q:World}(h:nJ Q R)(b:a.block<Q.heap.size):R.cell? a=Q.cell? a:=by
 unfold World.cell?;rw[h.2.2.2 _ b]
def nJ.frozen{Q:World}(h:nJ Q R)(b:a.block<Q.heap.size):R.frozen? a=Q.frozen? a:=by
 unfold World.frozen?;rw[h.2.2.2 _ b]
def nJ.same{Q:World}(h:nJ Q R){p:MemPlace}(c:p.block<Q.heap.size):Q.sameAt R p:=by
 cases p with
 |cell b d=>exact h.cell (a:=⟨b,d,none⟩) c|map b=>exact h.2.2.2 b c
section
variable{S:Type}{enc:TypeId×Value→S}{P:Program}
def Rj{Q R:World}(l:laidOutB P=true){m:Nat→Bool}:∀{f:List TypeId} {vs:List Value} {g:List (DataW S)} {e:List MemPlace},(∀t∈f,P.readableRec t=true∧t<P.types.size)→
 DataW.TrodAll enc P Q 0 (fun _=>true) true f vs g e→(∀p∈e,Q.sameAt R p)→(∀p∈e,m p.block=true)→DataW.TrodAll enc P R 0 m true f vs g e
 |[],[],[],_,_,h,_,_=>h|t::f,v::vs,d::g,e,j,⟨p,q,h1,h2,k⟩,n,o=>by
  have r:∀b,b∈p→b∈e:=fun b c=>by rw[k];exact WB _ c
  have s:∀b,b∈q→b∈e:=fun b c=>by rw[k];exact aon _ c
  exact⟨p,q,WideElems.Trod_stays l (j t (lO ..)).1 (j t (lO ..)).2 h1 (fun b c=>n b (r b c)) (fun b c=>o b (r b c)),
   Rj l (fun u w=>j u (m9 _ w)) h2 (fun b c=>n b (s b c)) (fun b c=>o b (s b c)),k⟩
def aa5{f:Func}{e:ChangeSpec}{apart fresh handsOn again:Bool}{Q:World}{args:Array Value}{c D:List (DataW S)}{before:List MemPlace}{tb:TypeId}
 (k:DataW.Whole enc P f.params.toList e.vars apart Q args.toList c D before) (s:e.vars=[]) (l:e.fn S c={results:=[.lit (.bool true)],args:=c})
 (E:laidOutB P=true) (F:∀t∈f.params.toList,P.readableRec t=true∧t<P.types.size) (u:f.resultTypes=#[tb]) (v:P.underlying tb=some .bool) (m:nJ Q R):
 e.post enc P f apart fresh handsOn again Q args (.bool true) R:=by
 have n:=k.lt;obtain⟨p,q,cC,w,x,H,I⟩:=id k;rw[s]at w;obtain⟨rfl,rfl⟩:=trodVars_none w;simp only[uJ]at x;subst x;have J:∀g:Nat→Bool,(∀d∈before,g d.block=true)→DataW.TrodAll enc P R 0 g true f.params.toList args.toList c before:=fun g o=>
  Rj E F cC (fun d h=>m.same (n d h)) o
 have y:∀(b:Nat) (j:Nat→Bool) (A:Bool),DataW.TrodAll enc P R b j A f.resultTypes.toList ((Value.bool true).resultList f.resultTypes.size) (e.fn S (c++[])).results []:=by
  intro b j A;rw[u,uJ,l];exact trodAll_cons_mk (shut_bool v _) trodAll_mk0
 have K:(e.fn S (c++[])).args=c:=by rw[uJ,l]
 have L:(e.fn S (c++[])).vars=[]:=by rw[uJ,l]
 have B:∀j:Nat→Bool,DataW.TrodVars enc P R j e.vars (e.fn S (c++[])).vars []:=by
  intro j;rw[L,s];rfl
 have cQ:∀g:Nat→Bool,(∀d∈before,g d.block=true)→DataW.TrodAll enc P R 0 g true f.params.toList args.toList (e.fn S (c++[])).args before:=fun g o=>by rw[K];exact J g o
 have hold:∀d∈before,(fun b=>decide (b<Q.heap.size)) d.block=true:=fun d h=>by simpa using n d h
 refine⟨c,[],before,[],before,[],k,y _ _ _,cQ _ hold,B _,World.keptBut_mono (fun d h=>⟨h,by simpa using h⟩) (m.kept (·∈before)),fun _=>?_⟩;refine⟨ok_one u rfl (okWide_bool_mk v _),_,_,([]++before)++[],⟨[]++before,[],trodAll_append (cQ _ (fun _ _=>rfl)) (y _ _ _),B _,rfl,?_,?_⟩,?_⟩
 ·intro b r M;have C:MemPlace.cell b r∈before:=by simpa using M
  have:=m.frozen (a:=⟨b,r,none⟩) (n _ C);rw[this];exact H b r C
 ·intro N;simpa using I N
 ·intro d h _;simpa using h
end
def oY(Q:World)(v:Value)(d:Data):Prop:=
 ∃a b,v=.slice a d.len b∧d.len≤b∧(b=0∨∃e:Loc,a=some (at' e.c e.base)∧b≤e.room∧je (fun _=>none) d e Q)
abbrev Ap(Q:World):Prop:=∀c,c<Q.heap.size→oK c
section
variable{S:Type}{enc:TypeId×Value→S}{P:Program}{Q:World}{base:Nat}
def aa6{c:Type}{f:c→af}{l:List c}{d:af}(h:(l[i]?).map f=some d):∃b,l[i]? =some b∧d=f b:=by
 rw[bU]at h;obtain⟨b,h1,h2⟩:=h;exact⟨b,h1,h2.symm⟩
def aa7{b:List Int}(h:b[i]? =some z):b.getD i 0=z:=by simp[List.getD,h]
def aa8(h:(Lit.int .u8 z).wf=true):(bh.bQ (BitVec.ofInt 8 z)).val=.int .u8 z:=by
 have:=bounds_u8 h
 show Value.int .u8 ((BitVec.ofInt 8 z).toNat:Int)=_;congr 1;rw[rJ];omega
def aa9{t d:TypeId}{k:IntKind}{n:Nat}{r:Reach}{v:Value}{o:DataW S}{p:List MemPlace}(e:P.underlying t=some (.array n d))(q:P.underlying d=some (.int k))(s:P.cellsOf d=1)(u:P.cellsOf t=n)
 (f:Value.okWide P Q r base t v) (h:DataW.Trod enc P Q 0 (fun _=>true) true t v o p):
 ∃z:Nat→Int,v=.agg ⟨(List.range n).map fun i=>.int k (z i)⟩∧∀i,i<n→(Lit.int k (z i)).wf=true:=by
 have w:∃cs:Array Value,v=.agg cs:=by
  simp only[Value.okWide,e]at f;obtain⟨cs,h1,_⟩:=f;exact⟨cs,h1⟩
 obtain⟨cs,rfl⟩:=w;obtain⟨D,x⟩:=h;obtain⟨E,m,_,_,g,F,y⟩:=DataW.trod_array e x;have j:∀i,i<n→∃z,cs.toList[i]? =some (.int k z)∧(Lit.int k z).wf=true:=by
  intro i hi;have l:=y i hi;rw[s,w8,bW (by omega)]at l;obtain⟨z,b,_,A⟩:=DataW.trod_int q l;refine⟨z,?_,A⟩;have B:((cs.toList.drop i).take 1)[0]? =some (.int k z):=by
   have:(Value.agg cs).cells.toList=cs.toList:=rfl;rw[this]at b;rw[b];rfl
  simpa using B
 have H:cs.toList.length=n:=by
  have b:(Value.agg cs).cells.toList=cs.toList:=rfl;rw[b]at g;rw[g,u]
 refine⟨fun i=>match cs.toList[i]? with|some (.int _ z)=>z|_=>0,?_,fun i hi=>?_⟩
 ·congr 1;apply jO;apply uH;intro i;rcases cv i n with hi|hi
  ·obtain⟨z,c,_⟩:=j i hi;rw[c,dY,Ep hi];simp only[ia,c]
  ·rw[di (by omega),di (by simpa using hi)]
 ·obtain⟨z,c,C⟩:=j i hi;simp only[c];exact C
end
end
section
variable [aR][aF]
open Go.ChangeShapes Go.WideShapes Go.RowKit
variable{W:World}{β:aE}{d:Data}{G:Nat→Option (List af)}{cs:List Bool}{v:Value}{b:Bool}{P:Program}{call:gf}{f:FuncId}{Q:List af}{vs:List Value}{R:List Bool}
def Good(W:World)(p:Value×Data)(h:Option Loc):Prop:=
 ∃a g,p.1=.slice a p.2.len g∧p.2.len≤g∧((g=0∧h=none)∨∃e:Loc,h=some e∧a=some (at' e.c e.base)∧g≤e.room∧je (fun _=>none) p.2 e W)
def oY.aS(h:oY W v d):∃g,Good W (v,d) g:=by
 obtain⟨a,c,h1,h2,h3|⟨e,h3,h4,i⟩⟩:=h
 ·exact⟨none,a,c,h1,h2,.inl ⟨h3,rfl⟩⟩
 ·exact⟨some e,a,c,h1,h2,.inr ⟨e,rfl,h3,h4,i⟩⟩
def none_le(β:aE):aE.le (fun _=>none) β:=fun _ _ h=>by cases h
def je.up{a:Loc}{w:World}(h:je (fun _=>none) d a w):je β d a w:=
 ⟨h.1,h.2.1,fun i c e=>by obtain⟨v,h1,h2,h3⟩:=h.2.2 i c e;exact⟨v,h1,h2.mono (none_le β),h3⟩⟩
def aba(F:∀g l,G g=some l→g7 g<W.heap.size∧∀(i:Nat) B,l[i]? =some B→∃v,W.cell? (gK g i)=some v∧aC (fun _=>none) B v∧gm (gK g i) false)(e:List (Value×Data))(h:∀p∈e,oY W p.1 p.2):
 ∃β:aE,aL G β (e.map fun p=>⟨p.2,.ro⟩) W∧∀(i:Nat) v d,e[i]? =some (v,d)→aC β (.sl i (.c 0) (.s d.len) none) v:=by
 have o:∀i:Nat,∃t:Option Loc,(∀p,e[i]? =some p→Good W p t)∧(e[i]? =none→t=none):=by
  intro i;cases H:e[i]? with
  |none=>exact⟨none,fun p I=>(by cases I),fun _=>rfl⟩
  |some p=>
   obtain⟨t,r⟩:=(h p (rH H)).aS;exact⟨t,fun q w=>(by injection w with w;subst w;exact r),fun J=>(by cases J)⟩
 refine⟨fun i=>Classical.choose (o i),?_,?_⟩
 ·have u:∀i,(∀p,e[i]? =some p→Good W p (Classical.choose (o i)))∧(e[i]? =none→Classical.choose (o i)=none):=fun i=>On (o i);generalize K:(fun i=>Classical.choose (o i))=β;have u:∀i,(∀p,e[i]? =some p→Good W p (β i))∧(e[i]? =none→β i=none):=by rw[←K];exact u
  have x:∀(b:Nat) k,(e.map fun p=>(⟨p.2,.ro⟩:ah))[b]? =some k→∃p,e[b]? =some p∧k=⟨p.2,.ro⟩:=by
   intro b k j;rw[dY,bU]at j;obtain⟨p,h1,h2⟩:=j;exact⟨p,h1,h2.symm⟩
  refine⟨fun b k j _=>?_,fun b O k S n T _ j _ r=>?_,fun b n D=>?_,F,fun b k n j r=>?_⟩
  ·obtain⟨p,h1,rfl⟩:=x b k j;obtain⟨a,y,_,z,⟨m,bf⟩|⟨n,m,bf,L,M⟩⟩:=(u b).1 p h1
   ·exact .inr ⟨by simp only;omega,bf⟩
   ·exact .inl ⟨n,m,M.up⟩
  ·obtain⟨p,_,rfl⟩:=x b k j;cases r
  ·rcases cv b e.length with A|A
   ·simpa using A
   ·rw[(u b).2 (di A)]at D;cases D
  ·obtain⟨p,_,rfl⟩:=x b k j;cases r
 ·intro i v d hi;obtain⟨a,y,E,z,m⟩:=(On (o i)).1 (v,d) hi;simp only at E z;rw[E];refine .sl i (.c 0) (.s d.len) none a y z (fun C N=>(by cases N)) ?_;rcases m with⟨m,_⟩|⟨n,m,bf,L,_⟩
  ·exact .inl m
  ·exact .inr ⟨n,m,by rw[bf];rfl,by show 0+y≤n.room;omega⟩
def verdict(r:Option (af×ai)):Option (Bool×List Bool):=
 match r with
 |some (.atom (.bool b),S)=>some (b.v,S.cond)|_=>none
def abb{r:Option (af×ai)}(h:verdict r=some (b,cs)):∃(a:B) (S:ai),r=some (.atom (.bool a),S)∧a.v=b∧S.cond=cs:=by
 unfold verdict at h;split at h
 ·rename_i a S;simp only[aB,aN]at h;exact⟨a,S,rfl,h.1,h.2⟩
 ·cases h
def abc(l:fX P G call){h:List ah}
 (m:verdict (call f Q ⟨h,bJ,R,[]⟩)=some (b,cs)) (n:b=true) (o:∀i∈cs,i=true) (p:aJ β Q vs) (q:aL G β h W) (r:∀(b:Nat) k,h[b]? =some k→k.mode≠.own) (s:Ap W):
 jU P f ⟨vs⟩ W fun j t=>j=.returned (.bool true)∧nJ W t:=by
 obtain⟨i,S,h1,h2,h3⟩:=abb m;obtain⟨_,g⟩:=l _ _ _ _ _ h1;obtain⟨_,a⟩:=g (fun w x=>o w (by rw[←h3];exact x)) β W vs p q;refine a.mono ?_;rintro j w' ⟨u,C,rfl,y,_,e⟩;refine⟨by rw[y.tC,h2,n],e.os,e.output,e.size,fun c a=>(e.kept c a ?_).1 ((s c a).1)⟩;rintro⟨z,k,D,A,B,_⟩;exact r z k A B
def Rk(k:IntKind)(n:Int):aC β (.int k (.s n)) (.int k n):=.num (.int k (.s n))
def Rl{n:Nat}{x:Nat→af}{v:Nat→Value}(h:∀i,i<n→aC β (x i) (v i)):aC β (.agg ((List.range n).map x)) (.agg ⟨(List.range n).map v⟩):=by
 refine .agg _ _ (by simp) fun i a b c e=>?_;rw[dY,bU]at c e;obtain⟨j,h1,rfl⟩:=c;obtain⟨k,h2,rfl⟩:=e;rw[h1]at h2;injection h2 with h2;subst h2;have:=dX.1 h1;obtain⟨hi,g⟩:=this;simp at hi g;exact h j (by omega)
def abd(m:fX P G call)(a:List (Value×Data))(n:∀g l,G g=some l→g7 g<W.heap.size∧∀(i:Nat) e,l[i]? =some e→∃v,W.cell? (gK g i)=some v∧aC (fun _=>none) e v∧gm (gK g i) false)(o:Ap W)(q:∀p∈a,oY W p.1 p.2)
 (r:verdict (call f Q ⟨a.map fun p=>⟨p.2,.ro⟩,bJ,R,[]⟩)=some (true,cs)) (t:∀e∈cs,e=true)
 (u:∀β,(∀(i:Nat) v d,a[i]? =some (v,d)→aC β (.sl i (.c 0) (.s d.len) none) v)→aJ β Q vs):
 jU P f ⟨vs⟩ W fun w x=>w=.returned (.bool true)∧nJ W x:=by
 obtain⟨β,y,z⟩:=aba (W:=W) n a q;refine abc m r rfl t (u β z) y (fun b k j=>?_) o;rw[dY,bU]at j;obtain⟨p,_,rfl⟩:=j;intro h;cases h
def abe:∀p∈([]:List (Value×Data)),oY W p.1 p.2:=fun p a=>by cases a
def F7{c:List (Value×Data)}(h:oY W v d)(k:∀p∈c,oY W p.1 p.2):∀p∈(v,d)::c,oY W p.1 p.2:=by
 intro p a;rcases jN.1 a with rfl|a
 ·exact h
 ·exact k p a
end
end Go.aA
namespace Go.Proofs.YtcminalaicidiaaGreatDoor
section
open Go.aA
variable [aR]
def F8:List af:=[.int .u8 (.c 0),.int .u8 (.c 2),.int .u8 (.c 4),.int .u8 (.c 6),.int .u8 (.c 1),.int .u8 (.c 3),.int .u8 (.c 5),.int .u8 (.c 7),.int .u8 (.c 8),.int .u8 (.c 10),.int .u8 (.c 12),.int .u8 (.c 14),.int .u8 (.c 9),.int .u8 (.c 11),.int .u8 (.c 13),.int .u8 (.c 15),.int .u8 (.c 14),.int .u8 (.c 4),.int .u8 (.c 9),.int .u8 (.c 13),.int .u8 (.c 10),.int .u8 (.c 8),.int .u8 (.c 15),.int .u8 (.c 6),.int .u8 (.c 1),.int .u8 (.c 0),.int .u8 (.c 11),.int .u8 (.c 5),.int .u8 (.c 12),.int .u8 (.c 2),.int .u8 (.c 7),.int .u8 (.c 3),.int .u8 (.c 11),.int .u8 (.c 12),.int .u8 (.c 5),.int .u8 (.c 15),.int .u8 (.c 8),.int .u8 (.c 0),.int .u8 (.c 2),.int .u8 (.c 13),.int .u8 (.c 10),.int .u8 (.c 3),.int .u8 (.c 7),.int .u8 (.c 9),.int .u8 (.c 14),.int .u8 (.c 6),.int .u8 (.c 1),.int .u8 (.c 4),.int .u8 (.c 7),.int .u8 (.c 3),.int .u8 (.c 13),.int .u8 (.c 11),.int .u8 (.c 9),.int .u8 (.c 1),.int .u8 (.c 12),.int .u8 (.c 14),.int .u8 (.c 2),.int .u8 (.c 5),.int .u8 (.c 4),.int .u8 (.c 15),.int .u8 (.c 6),.int .u8 (.c 10),.int .u8 (.c 0),.int .u8 (.c 8),.int .u8 (.c 9),.int .u8 (.c 5),.int .u8 (.c 2),.int .u8 (.c 10),.int .u8 (.c 0),.int .u8 (.c 7),.int .u8 (.c 4),.int .u8 (.c 15),.int .u8 (.c 14),.int .u8 (.c 11),.int .u8 (.c 6),.int .u8 (.c 3),.int .u8 (.c 1),.int .u8 (.c 12),.int .u8 (.c 8),.int .u8 (.c 13),.int .u8 (.c 2),.int .u8 (.c 6),.int .u8 (.c 0),.int .u8 (.c 8),.int .u8 (.c 12),.int .u8 (.c 10),.int .u8 (.c 11),.int .u8 (.c 3),.int .u8 (.c 4),.int .u8 (.c 7),.int .u8 (.c 15),.int .u8 (.c 1),.int .u8 (.c 13),.int .u8 (.c 5),.int .u8 (.c 14),.int .u8 (.c 9),.int .u8 (.c 12),.int .u8 (.c 1),.int .u8 (.c 14),.int .u8 (.c 4),.int .u8 (.c 5),.int .u8 (.c 15),.int .u8 (.c 13),.int .u8 (.c 10),.int .u8 (.c 0),.int .u8 (.c 6),.int .u8 (.c 9),.int .u8 (.c 8),.int .u8 (.c 7),.int .u8 (.c 3),.int .u8 (.c 2),.int .u8 (.c 11),.int .u8 (.c 13),.int .u8 (.c 7),.int .u8 (.c 12),.int .u8 (.c 3),.int .u8 (.c 11),.int .u8 (.c 14),.int .u8 (.c 1),.int .u8 (.c 9),.int .u8 (.c 5),.int .u8 (.c 15),.int .u8 (.c 8),.int .u8 (.c 2),.int .u8 (.c 0),.int .u8 (.c 4),.int .u8 (.c 6),.int .u8 (.c 10),.int .u8 (.c 6),.int .u8 (.c 14),.int .u8 (.c 11),.int .u8 (.c 0),.int .u8 (.c 15),.int .u8 (.c 9),.int .u8 (.c 3),.int .u8 (.c 8),.int .u8 (.c 12),.int .u8 (.c 13),.int .u8 (.c 1),.int .u8 (.c 10),.int .u8 (.c 2),.int .u8 (.c 7),.int .u8 (.c 4),.int .u8 (.c 5),.int .u8 (.c 10),.int .u8 (.c 8),.int .u8 (.c 7),.int .u8 (.c 1),.int .u8 (.c 2),.int .u8 (.c 4),.int .u8 (.c 6),.int .u8 (.c 5),.int .u8 (.c 15),.int .u8 (.c 9),.int .u8 (.c 3),.int .u8 (.c 13),.int .u8 (.c 11),.int .u8 (.c 14),.int .u8 (.c 12),.int .u8 (.c 0),.int .u8 (.c 0),.int .u8 (.c 2),.int .u8 (.c 4),.int .u8 (.c 6),.int .u8 (.c 1),.int .u8 (.c 3),.int .u8 (.c 5),.int .u8 (.c 7),.int .u8 (.c 8),.int .u8 (.c 10),.int .u8 (.c 12),.int .u8 (.c 14),.int .u8 (.c 9),.int .u8 (.c 11),.int .u8 (.c 13),.int .u8 (.c 15),.int .u8 (.c 14),.int .u8 (.c 4),.int .u8 (.c 9),.int .u8 (.c 13),.int .u8 (.c 10),.int .u8 (.c 8),.int .u8 (.c 15),.int .u8 (.c 6),.int .u8 (.c 1),.int .u8 (.c 0),.int .u8 (.c 11),.int .u8 (.c 5),.int .u8 (.c 12),.int .u8 (.c 2),.int .u8 (.c 7),.int .u8 (.c 3)]
def F9:List af:=[.int .u64 (.c 7640891576956012808),.int .u64 (.c 13503953896175478587),.int .u64 (.c 4354685564936845355),.int .u64 (.c 11912009170470909681),.int .u64 (.c 5840696475078001361),.int .u64 (.c 11170449401992604703),.int .u64 (.c 2270897969802886507),.int .u64 (.c 6620516959819538809)]
def bB:Nat→Option (List af)|0=>some F8|8=>some F9|_=>none
def J1(f:Nat)(args:List af):Option af:=
 match Nat.beq f 98,args with
 |true,[.num a,.num b,.num c]=>
  match a.fE,b.fE,c.fE with
  |some d,some e,some z=>
   match Nat.ble z.toNat 1 with
   |true=>some (.obj .bx [.num (.int .u64 (.c (((d.toNat+e.toNat+z.toNat)%18446744073709551616:Nat):Int))),.num (.int .u64 (.c (((d.toNat+e.toNat+z.toNat)/18446744073709551616:Nat):Int)))])|false=>none
  |_,_,_=>none
 |_,_=>none
def aj:Nat→Nat|3=>11|4=>13|5=>5|6=>4|7=>9|8=>5|9=>20|10=>39|11=>1|12=>6|13=>16|14=>18|15=>2|16=>19|17=>27|18=>3|19=>6|20=>14|21=>16|22=>5|23=>2|24=>13|25=>13|26=>21|27=>10|28=>16|29=>14|30=>5|31=>23|32=>13|33=>17|34=>17|35=>1|36=>12|37=>15|38=>67|39=>6|40=>4|41=>3|42=>9|43=>5|44=>23|45=>3|46=>20|47=>3|48=>1|49=>24|50=>7|51=>3|52=>20|53=>15|54=>3|55=>4|56=>7|57=>6|58=>14|59=>12|66=>5|67=>5|69=>3|70=>2|75=>7|78=>5|79=>9|80=>23|81=>9|82=>5|83=>5|84=>5|85=>1|86=>48|92=>4|93=>8|94=>9|95=>12|96=>7|97=>14|118=>6|119=>9|120=>10|121=>4|122=>31|123=>6|_=>0
def eF:Nat→List Nat|3=>[13,46]|4=>[20,45,69]|5=>[6,7,5,11]|6=>[7,15]|10=>[56,90,99,134,138,143,153,156,157,182,183,181,186]|12=>[10,14,25]|13=>[18]|15=>[3]|17=>[37,38,39,36,52,53,54,51]|19=>[7,8,9,6]|20=>[20,39]|21=>[23,36,82,83,81]|22=>[5,6]|23=>[3]|26=>[22,25,51]|29=>[14,15,29,32,33,45,48,49,65,66]|32=>[17,41,42,66,67]|33=>[25,29,34]|34=>[23,35,36,34,56,57,55]|36=>[26]|37=>[36]|39=>[7,39]|42=>[12,39,64,86]|44=>[36,66,60,84,92,112,109]|46=>[30,41,56,46,66]|49=>[35,50,67,74,87,94,100,106,110]|50=>[39,34,19,52,66,63,82,48]|52=>[25,39,40,38,53,97]|53=>[39,40,41,38]|56=>[12,16]|58=>[14,15,32,85,144,145,171,172,143]|78=>[6,7]|79=>[43]|80=>[26,50,60,68,94,127]|81=>[13,14,15,12]|82=>[7]|83=>[7]|85=>[44]|92=>[5,6,4]|93=>[10]|95=>[18,22,74]|119=>[23,15,78,73,96]|120=>[33,50,51,49]|122=>[42,46,106,107,119,120]|_=>[]
def dyn:Nat→Nat→Bool|3,6=>true|4,8=>true|27,1=>true|52,15=>true|52,18=>true|53,7=>true|55,0=>true|55,2=>true|55,4=>true|55,6=>true|79,2=>true|80,6=>true|119,5=>true|119,18=>true|_,_=>false
def scope(f:Nat):Bool:=oG f [3,4,5,6,7,8,10,11,12,14,15,16,17,18,19,20,21,22,23,24,25,26,27,28,29,30,31,32,34,35,36,37,38,39,40,41,42,43,44,45,46,47,51,52,53,54,55,56,57,58,59,78,79,80,81,82,83,84,85,86,92,93,94,95,96,97,118,119,120,121,122,123]
def gv(t:Nat)(m:String):Option FuncId:=
 if t=122∧m= "Write" then some 119 else
 if t=122∧m= "Sum" then some 118 else
 if t=122∧m= "Reset" then some 85 else
 none
def de(spec:FuncId→Option aA.Spec)(a:FuncId→Nat→Option cP):eK:={P:=Tryz.prog,dB:=bB,aj:=aj,eF:=eF,dyn:=dyn,spec:=spec,loop:=a,scope:=scope,gv:=gv,ext:=J1}
def cr:FuncId→Option aA.Spec:=fun _=>none
def aQ:FuncId→Nat→Option cP:=fun _ _=>none
def J2(spec:FuncId→Option aA.Spec)(a:FuncId→Nat→Option cP)(f:FuncId):qM (de spec a) f=qM (de cr aQ) f:=rfl
def aW(f:FuncId):Prop:=qM (de cr aQ) f=true
def mixed:Tryz.prog.follows .mixedOrders=true:=by kernel_rfl
def abf [aF](v:Value)(w:World):(method (Tryz.prog.types.size+Made.depth) 122 v "Write").aG Tryz.prog w=.ok (119,v) w:=by kernel_rfl
def abg [aF](v:Value)(w:World):(method (Tryz.prog.types.size+Made.depth) 122 v "Sum").aG Tryz.prog w=.ok (118,v) w:=by kernel_rfl
def abh [aF](v:Value)(w:World):(method (Tryz.prog.types.size+Made.depth) 122 v "Reset").aG Tryz.prog w=.ok (85,v) w:=by kernel_rfl
def vL [aF]:oV Tryz.prog gv:=by
 intro t m f h v w;unfold gv at h;split at h
 ·rename_i a;obtain⟨rfl,rfl⟩:=a;have h:=dV h;subst h;exact abf v w
 split at h
 ·rename_i a;obtain⟨rfl,rfl⟩:=a;have h:=dV h;subst h;exact abg v w
 split at h
 ·rename_i a;obtain⟨rfl,rfl⟩:=a;have h:=dV h;subst h;exact abh v w
 cases h
end
section
open Go Go.aA
variable [aR][aF]
def abi:Extern.findNext Tryz.f98=none:=by kernel_rfl
def abj:Tryz.f98.body.isNone=true:=by kernel_rfl
def Rm:(Tryz.f98.name== "runtime.NumGoroutine")=false:=by kernel_rfl
def abk:Extern.find Tryz.f98=some add64Entry:=by kernel_rfl
def abl{P:Program}(a b k:Nat)(c:k≤1)(w:World):
 (add64Entry #[.int .u64 (a:Int),.int .u64 (b:Int),.int .u64 (k:Int)]).aG P w=.ok (Extern.MathBitsCarry.pair ((a+b+k)%Extern.MathBitsCarry.m64) ((a+b+k)/Extern.MathBitsCarry.m64)) w:=by
 have:k=0∨k=1:=by omega
 rcases this with rfl|rfl<;>rfl
def abm(p:Addr)(w:World):(nilAhead (Tryz.prog.types.size+Made.depth) 122 (.pointer (some p)) "Write").aG Tryz.prog w=.ok (some false) w:=by kernel_rfl
def abn(p:Addr)(w:World):(nilAhead (Tryz.prog.types.size+Made.depth) 122 (.pointer (some p)) "Sum").aG Tryz.prog w=.ok (some false) w:=by kernel_rfl
def abo(p:Addr)(w:World):(nilAhead (Tryz.prog.types.size+Made.depth) 122 (.pointer (some p)) "Reset").aG Tryz.prog w=.ok (some false) w:=by kernel_rfl
instance aoP(spec:FuncId→Option aA.Spec)(l:FuncId→Nat→Option cP):lY (de spec l)where
 P4:=by
  intro t m f h p w;change gv t m=some f at h;unfold gv at h;split at h
  ·rename_i d;obtain⟨rfl,rfl⟩:=d;exact abm p w
  split at h
  ·rename_i d;obtain⟨rfl,rfl⟩:=d;exact abn p w
  split at h
  ·rename_i d;obtain⟨rfl,rfl⟩:=d;exact abo p w
  cases h
 ok:=by
  intro f args v h β vs w o;change J1 f args=some v at h;unfold J1 at h;split at h
  case h_2=>cases h
  rename_i a b c q;split at h
  case h_2=>cases h
  rename_i e g z r s u;split at h
  case h_2=>cases h
  rename_i j;have j:z.toNat≤1:=Wv j;obtain rfl:f=98:=rO q;obtain⟨x,k⟩:=o
  match vs,x with
  |[C,D,E],_=>
   obtain rfl:=(k 0 _ _ rfl rfl).num_inv;obtain rfl:=(k 1 _ _ rfl rfl).num_inv;obtain rfl:=(k 2 _ _ rfl rfl).num_inv;rw[bh.oN r,bh.oN s,bh.oN u];simp only[aB]at h;subst h;refine⟨.tuple #[.int .u64 (((e.toNat+g.toNat+z.toNat)%18446744073709551616:Nat):Int),.int .u64 (((e.toNat+g.toNat+z.toNat)/18446744073709551616:Nat):Int)],?_,?_⟩
   ·exact .bx _ _ rfl (fun i e v h1 h2=>by
     match i,h1,h2 with
     |0,h1,h2=>cases h1;cases h2;exact .num _
     |1,h1,h2=>cases h1;cases h2;exact .num _
     |n+2,h1,_=>simp at h1)
   ·have y:Tryz.f98.body=none:=by simpa using abj
    have F:¬Tryz.f98.name= "runtime.NumGoroutine" :=by simpa using Rm
    have A:EI (.extern 98):=.inr ⟨98,rfl⟩;have B:=abl (P:=Tryz.prog) e.toNat g.toNat z.toNat j w;simp only[callFunc,de,Sem.rV,WR,Result.andThen,Tryz.func98,Rm,y,Option.isNone_none,gT,ei,m8,abi,abk,mark,Sem.aG,A,Sem.fT];rw[B];rfl
end
section
open Go.aA
variable [aR][aF]
variable{spec:FuncId→Option aA.Spec}{P:FuncId→Nat→Option cP}
def abp:aW 3:=by unfold aW;kernel_rfl
def abq:aW 4:=by unfold aW;kernel_rfl
def abr:aW 5:=by unfold aW;kernel_rfl
def abt:aW 6:=by unfold aW;kernel_rfl
def abu:aW 7:=by unfold aW;kernel_rfl
def abv:aW 8:=by unfold aW;kernel_rfl
def vM:aW 10:=by unfold aW;kernel_rfl
def abw:aW 11:=by unfold aW;kernel_rfl
def Rn:aW 12:=by unfold aW;kernel_rfl
def abx:aW 14:=by unfold aW;kernel_rfl
def aby:aW 15:=by unfold aW;kernel_rfl
def abz:aW 16:=by unfold aW;kernel_rfl
def abA:aW 17:=by unfold aW;kernel_rfl
def abB:aW 18:=by unfold aW;kernel_rfl
def Ro:aW 19:=by unfold aW;kernel_rfl
def Rp:aW 20:=by unfold aW;kernel_rfl
def J3:aW 21:=by unfold aW;kernel_rfl
def abC:aW 22:=by unfold aW;kernel_rfl
def abD:aW 23:=by unfold aW;kernel_rfl
def abE:aW 24:=by unfold aW;kernel_rfl
def abF:aW 25:=by unfold aW;kernel_rfl
def abG:aW 26:=by unfold aW;kernel_rfl
def abH:aW 27:=by unfold aW;kernel_rfl
def abI:aW 28:=by unfold aW;kernel_rfl
def J4:aW 29:=by unfold aW;kernel_rfl
def abJ:aW 30:=by unfold aW;kernel_rfl
def abK:aW 31:=by unfold aW;kernel_rfl
def Aq:aW 32:=by unfold aW;kernel_rfl
def Ga:aW 34:=by unfold aW;kernel_rfl
def abL:aW 35:=by unfold aW;kernel_rfl
def abM:aW 36:=by unfold aW;kernel_rfl
def abN:aW 37:=by unfold aW;kernel_rfl
def abO:aW 38:=by unfold aW;kernel_rfl
def abP:aW 39:=by unfold aW;kernel_rfl
def abQ:aW 40:=by unfold aW;kernel_rfl
def abR:aW 41:=by unfold aW;kernel_rfl
def Rq:aW 42:=by unfold aW;kernel_rfl
def abS:aW 43:=by unfold aW;kernel_rfl
def C2:aW 44:=by unfold aW;kernel_rfl
def abT:aW 45:=by unfold aW;kernel_rfl
def abU:aW 46:=by unfold aW;kernel_rfl
def abV:aW 47:=by unfold aW;kernel_rfl
def abW:aW 51:=by unfold aW;kernel_rfl
def J5:aW 52:=by unfold aW;kernel_rfl
def abX:aW 53:=by unfold aW;kernel_rfl
def abY:aW 54:=by unfold aW;kernel_rfl
def abZ:aW 55:=by unfold aW;kernel_rfl
def ab0:aW 56:=by unfold aW;kernel_rfl
def ab1:aW 57:=by unfold aW;kernel_rfl
def J6:aW 58:=by unfold aW;kernel_rfl
def ab2:aW 59:=by unfold aW;kernel_rfl
def ab3:aW 78:=by unfold aW;kernel_rfl
def ab4:aW 79:=by unfold aW;kernel_rfl
def ab5:aW 80:=by unfold aW;kernel_rfl
def Rr:aW 81:=by unfold aW;kernel_rfl
def ab6:aW 82:=by unfold aW;kernel_rfl
def ab7:aW 83:=by unfold aW;kernel_rfl
def ab8:aW 84:=by unfold aW;kernel_rfl
def ab9:aW 85:=by unfold aW;kernel_rfl
def acd:aW 86:=by unfold aW;kernel_rfl
def ace:aW 92:=by unfold aW;kernel_rfl
def acf:aW 93:=by unfold aW;kernel_rfl
def acg:aW 94:=by unfold aW;kernel_rfl
def ach:aW 95:=by unfold aW;kernel_rfl
def aci:aW 96:=by unfold aW;kernel_rfl
def acj:aW 97:=by unfold aW;kernel_rfl
def ack:aW 118:=by unfold aW;kernel_rfl
def acm:aW 119:=by unfold aW;kernel_rfl
def acn:aW 120:=by unfold aW;kernel_rfl
def aco:aW 121:=by unfold aW;kernel_rfl
def Rs:aW 122:=by unfold aW;kernel_rfl
def acp:aW 123:=by unfold aW;kernel_rfl
def cD{f a:Nat}{l:List Nat}(h:oG f (a::l)=true):f=a∨oG f l=true:=by
 rw[Ah,jN]at h;rcases h with h|h
 ·exact .inl h
 ·exact .inr ((Ah f l).2 h)
def acr(f:FuncId)(h:scope f=true):aW f:=by
 unfold scope at h;rcases cD h with rfl|h
 ·exact abp
 rcases cD h with rfl|h
 ·exact abq
 rcases cD h with rfl|h
 ·exact abr
 rcases cD h with rfl|h
 ·exact abt
 rcases cD h with rfl|h
 ·exact abu
 rcases cD h with rfl|h
 ·exact abv
 rcases cD h with rfl|h
 ·exact vM
 rcases cD h with rfl|h
 ·exact abw
 rcases cD h with rfl|h
 ·exact Rn
 rcases cD h with rfl|h
 ·exact abx
 rcases cD h with rfl|h
 ·exact aby
 rcases cD h with rfl|h
 ·exact abz
 rcases cD h with rfl|h
 ·exact abA
 rcases cD h with rfl|h
 ·exact abB
 rcases cD h with rfl|h
 ·exact Ro
 rcases cD h with rfl|h
 ·exact Rp
 rcases cD h with rfl|h
 ·exact J3
 rcases cD h with rfl|h
 ·exact abC
 rcases cD h with rfl|h
 ·exact abD
 rcases cD h with rfl|h
 ·exact abE
 rcases cD h with rfl|h
 ·exact abF
 rcases cD h with rfl|h
 ·exact abG
 rcases cD h with rfl|h
 ·exact abH
 rcases cD h with rfl|h
 ·exact abI
 rcases cD h with rfl|h
 ·exact J4
 rcases cD h with rfl|h
 ·exact abJ
 rcases cD h with rfl|h
 ·exact abK
 rcases cD h with rfl|h
 ·exact Aq
 rcases cD h with rfl|h
 ·exact Ga
 rcases cD h with rfl|h
 ·exact abL
 rcases cD h with rfl|h
 ·exact abM
 rcases cD h with rfl|h
 ·exact abN
 rcases cD h with rfl|h
 ·exact abO
 rcases cD h with rfl|h
 ·exact abP
 rcases cD h with rfl|h
 ·exact abQ
 rcases cD h with rfl|h
 ·exact abR
 rcases cD h with rfl|h
 ·exact Rq
 rcases cD h with rfl|h
 ·exact abS
 rcases cD h with rfl|h
 ·exact C2
 rcases cD h with rfl|h
 ·exact abT
 rcases cD h with rfl|h
 ·exact abU
 rcases cD h with rfl|h
 ·exact abV
 rcases cD h with rfl|h
 ·exact abW
 rcases cD h with rfl|h
 ·exact J5
 rcases cD h with rfl|h
 ·exact abX
 rcases cD h with rfl|h
 ·exact abY
 rcases cD h with rfl|h
 ·exact abZ
 rcases cD h with rfl|h
 ·exact ab0
 rcases cD h with rfl|h
 ·exact ab1
 rcases cD h with rfl|h
 ·exact J6
 rcases cD h with rfl|h
 ·exact ab2
 rcases cD h with rfl|h
 ·exact ab3
 rcases cD h with rfl|h
 ·exact ab4
 rcases cD h with rfl|h
 ·exact ab5
 rcases cD h with rfl|h
 ·exact Rr
 rcases cD h with rfl|h
 ·exact ab6
 rcases cD h with rfl|h
 ·exact ab7
 rcases cD h with rfl|h
 ·exact ab8
 rcases cD h with rfl|h
 ·exact ab9
 rcases cD h with rfl|h
 ·exact acd
 rcases cD h with rfl|h
 ·exact ace
 rcases cD h with rfl|h
 ·exact acf
 rcases cD h with rfl|h
 ·exact acg
 rcases cD h with rfl|h
 ·exact ach
 rcases cD h with rfl|h
 ·exact aci
 rcases cD h with rfl|h
 ·exact acj
 rcases cD h with rfl|h
 ·exact ack
 rcases cD h with rfl|h
 ·exact acm
 rcases cD h with rfl|h
 ·exact acn
 rcases cD h with rfl|h
 ·exact aco
 rcases cD h with rfl|h
 ·exact Rs
 rcases cD h with rfl|h
 ·exact acp
 cases h
def C3(spec:FuncId→Option aA.Spec)(P:FuncId→Nat→Option cP)(f:FuncId)(h:scope f=true):qM (de spec P) f=true:=(J2 spec P f).trans (acr f h)
class bq:Prop where
 plain:∀f,scope f=true→aF.plain f
variable [bq]
abbrev br [aR][aF]:=dy Tryz.prog bB
def acs(e:∀f a,spec f=some a→br f a)(c:c6 (de spec P) bB)(b d:Nat):
 fX Tryz.prog bB (B6 (de spec P) b (uY (de spec P) d b)):=
 QL (C:=de spec P) rfl (F1 (C:=de spec P) rfl vL mixed (C3 spec P) bq.plain c (fun f a h args S v g i=>CU (e f a h) args S v g i) b d) vL mixed (C3 spec P) bq.plain c b
def bY(spec:FuncId→Option aA.Spec)(P:FuncId→Nat→Option cP)(f:FuncId)(args:List af)(S:ai):Option (af×ai):=B6 (de spec P) 100000 (uY (de spec P) 20 100000) f args S
def dm(b:∀f a,spec f=some a→br f a)(c:c6 (de spec P) bB):fX Tryz.prog bB (bY spec P):=acs b c 100000 20
def fL:∀f a,cr f=some a→br f a:=fun _ _ h=>by cases h
def cK(spec:FuncId→Option aA.Spec):c6 (de spec aQ) bB:=c6.none (fun _ _=>rfl)
def bZ(spec:FuncId→Option aA.Spec)(P:FuncId→Nat→Option cP)(f i:Nat)(a:aI)(S:ai):Option (dJ×aI×ai):=exec (de spec P) 100000 (bg Tryz.prog f i) ⟨uY (de spec P) 20 100000,aj f,eF f,dyn f,P f⟩ a S
def iw(c:∀f a,spec f=some a→br f a)(b:c6 (de spec P) bB)(f i:Nat)(d:aW f)(hi:i<(cH Tryz.prog f).length):
 dc Tryz.prog bB (aj f) (bN Tryz.prog f) (bg Tryz.prog f i) (bZ spec P f i):=
 aaU (C:=de spec P) rfl (F1 (C:=de spec P) rfl vL mixed (C3 spec P) bq.plain b (fun f a h args S v e g=>CU (c f a h) args S v e g) 100000 20) vL mixed b ((J2 spec P f).trans d) 100000 i hi
def Told(f i:Nat)(a:cP):Prop:=dc Tryz.prog bB (aj f) (bN Tryz.prog f) (.loop (bg Tryz.prog f i)) a
def ax{b:Bool}{l:List Bool}(h:b=true)(k:∀a∈l,a=true):∀a∈b::l,a=true:=by
 intro a c;rcases jN.1 c with rfl|c
 ·exact h
 ·exact k a c
def aV:∀a∈([]:List Bool),a=true:=fun a b=>by cases b
end
section
open Go.aA
variable [aR][aF][bq]
structure bp where
 (dQ ew ey ez e4 e5 e6 e7:BitVec 64)
structure so where
 (a b c d:BitVec 64)
structure kr where
 (dQ ew ey ez e4 e5 e6 e7 xY xZ x3 x4 x5 x6 x7 x8:BitVec 64)
def jg(a b c d e f g h:BitVec 8):BitVec 64:=a.setWidth 64|||b.setWidth 64<<<8|||c.setWidth 64<<<16|||d.setWidth 64<<<24|||e.setWidth 64<<<32|||f.setWidth 64<<<40|||g.setWidth 64<<<48|||h.setWidth 64<<<56
def e8(v:U 8)(a:Nat):U 64:=U.of [jg (v.l.getD (a+0) 0#8) (v.l.getD (a+1) 0#8) (v.l.getD (a+2) 0#8) (v.l.getD (a+3) 0#8) (v.l.getD (a+4) 0#8) (v.l.getD (a+5) 0#8) (v.l.getD (a+6) 0#8) (v.l.getD (a+7) 0#8),jg (v.l.getD (a+8) 0#8) (v.l.getD (a+9) 0#8) (v.l.getD (a+10) 0#8) (v.l.getD (a+11) 0#8) (v.l.getD (a+12) 0#8) (v.l.getD (a+13) 0#8) (v.l.getD (a+14) 0#8) (v.l.getD (a+15) 0#8),jg (v.l.getD (a+16) 0#8) (v.l.getD (a+17) 0#8) (v.l.getD (a+18) 0#8) (v.l.getD (a+19) 0#8) (v.l.getD (a+20) 0#8) (v.l.getD (a+21) 0#8) (v.l.getD (a+22) 0#8) (v.l.getD (a+23) 0#8),jg (v.l.getD (a+24) 0#8) (v.l.getD (a+25) 0#8) (v.l.getD (a+26) 0#8) (v.l.getD (a+27) 0#8) (v.l.getD (a+28) 0#8) (v.l.getD (a+29) 0#8) (v.l.getD (a+30) 0#8) (v.l.getD (a+31) 0#8),jg (v.l.getD (a+32) 0#8) (v.l.getD (a+33) 0#8) (v.l.getD (a+34) 0#8) (v.l.getD (a+35) 0#8) (v.l.getD (a+36) 0#8) (v.l.getD (a+37) 0#8) (v.l.getD (a+38) 0#8) (v.l.getD (a+39) 0#8),jg (v.l.getD (a+40) 0#8) (v.l.getD (a+41) 0#8) (v.l.getD (a+42) 0#8) (v.l.getD (a+43) 0#8) (v.l.getD (a+44) 0#8) (v.l.getD (a+45) 0#8) (v.l.getD (a+46) 0#8) (v.l.getD (a+47) 0#8),jg (v.l.getD (a+48) 0#8) (v.l.getD (a+49) 0#8) (v.l.getD (a+50) 0#8) (v.l.getD (a+51) 0#8) (v.l.getD (a+52) 0#8) (v.l.getD (a+53) 0#8) (v.l.getD (a+54) 0#8) (v.l.getD (a+55) 0#8),jg (v.l.getD (a+56) 0#8) (v.l.getD (a+57) 0#8) (v.l.getD (a+58) 0#8) (v.l.getD (a+59) 0#8) (v.l.getD (a+60) 0#8) (v.l.getD (a+61) 0#8) (v.l.getD (a+62) 0#8) (v.l.getD (a+63) 0#8),jg (v.l.getD (a+64) 0#8) (v.l.getD (a+65) 0#8) (v.l.getD (a+66) 0#8) (v.l.getD (a+67) 0#8) (v.l.getD (a+68) 0#8) (v.l.getD (a+69) 0#8) (v.l.getD (a+70) 0#8) (v.l.getD (a+71) 0#8),jg (v.l.getD (a+72) 0#8) (v.l.getD (a+73) 0#8) (v.l.getD (a+74) 0#8) (v.l.getD (a+75) 0#8) (v.l.getD (a+76) 0#8) (v.l.getD (a+77) 0#8) (v.l.getD (a+78) 0#8) (v.l.getD (a+79) 0#8),jg (v.l.getD (a+80) 0#8) (v.l.getD (a+81) 0#8) (v.l.getD (a+82) 0#8) (v.l.getD (a+83) 0#8) (v.l.getD (a+84) 0#8) (v.l.getD (a+85) 0#8) (v.l.getD (a+86) 0#8) (v.l.getD (a+87) 0#8),jg (v.l.getD (a+88) 0#8) (v.l.getD (a+89) 0#8) (v.l.getD (a+90) 0#8) (v.l.getD (a+91) 0#8) (v.l.getD (a+92) 0#8) (v.l.getD (a+93) 0#8) (v.l.getD (a+94) 0#8) (v.l.getD (a+95) 0#8),jg (v.l.getD (a+96) 0#8) (v.l.getD (a+97) 0#8) (v.l.getD (a+98) 0#8) (v.l.getD (a+99) 0#8) (v.l.getD (a+100) 0#8) (v.l.getD (a+101) 0#8) (v.l.getD (a+102) 0#8) (v.l.getD (a+103) 0#8),jg (v.l.getD (a+104) 0#8) (v.l.getD (a+105) 0#8) (v.l.getD (a+106) 0#8) (v.l.getD (a+107) 0#8) (v.l.getD (a+108) 0#8) (v.l.getD (a+109) 0#8) (v.l.getD (a+110) 0#8) (v.l.getD (a+111) 0#8),jg (v.l.getD (a+112) 0#8) (v.l.getD (a+113) 0#8) (v.l.getD (a+114) 0#8) (v.l.getD (a+115) 0#8) (v.l.getD (a+116) 0#8) (v.l.getD (a+117) 0#8) (v.l.getD (a+118) 0#8) (v.l.getD (a+119) 0#8),jg (v.l.getD (a+120) 0#8) (v.l.getD (a+121) 0#8) (v.l.getD (a+122) 0#8) (v.l.getD (a+123) 0#8) (v.l.getD (a+124) 0#8) (v.l.getD (a+125) 0#8) (v.l.getD (a+126) 0#8) (v.l.getD (a+127) 0#8)]
def C4(a:BitVec 64)(n:Nat):BitVec 64:=a<<<n|||a>>>(64-n)
def J7(a b c d k l:BitVec 64):so:=
 let e:=a+k+b;let f:=C4 (d^^^e) 32;let g:=c+f;let h:=C4 (b^^^g) 40;let i:=e+l+h;let d2:=C4 (f^^^i) 48;let j:=g+d2
 ⟨i,C4 (h^^^j) 1,j,d2⟩
def acu(q:BitVec 64→BitVec 64→BitVec 64→BitVec 64→BitVec 64→BitVec 64→so)(m:U 64)(i:List Nat)(v:kr):kr:=
 match v,i with
 |⟨j,k,n,o,gI,p,r,s,t,u,w,x,y,z,A,E⟩,[F,H,I,J,K,L,M,N,O,P,oZ,Q,R,S,T,V]=>
  let e:=q j gI t y (m.l.getD F 0#64) (m.l.getD K 0#64);let B:=q k p u z (m.l.getD H 0#64) (m.l.getD L 0#64);let C:=q n r w A (m.l.getD I 0#64) (m.l.getD M 0#64);let D:=q o s x E (m.l.getD J 0#64) (m.l.getD N 0#64);let f:=q e.a B.b C.c D.d (m.l.getD O 0#64) (m.l.getD R 0#64);let g:=q B.a C.b D.c e.d (m.l.getD P 0#64) (m.l.getD S 0#64);let G:=q C.a D.b e.c B.d (m.l.getD oZ 0#64) (m.l.getD T 0#64);let h:=q D.a e.b B.c C.d (m.l.getD Q 0#64) (m.l.getD V 0#64)
  ⟨f.a,g.a,G.a,h.a,h.b,f.b,g.b,G.b,G.c,h.c,f.c,g.c,g.d,G.d,h.d,f.d⟩
 |v,_=>v
def Rt(q:BitVec 64→BitVec 64→BitVec 64→BitVec 64→BitVec 64→BitVec 64→so)(m:U 64):List (List Nat)→kr→kr|[],v=>v|a::r,v=>Rt q m r (acu q m a v)
def acv:List (List Nat):=[[0,2,4,6,1,3,5,7,8,10,12,14,9,11,13,15],[14,4,9,13,10,8,15,6,1,0,11,5,12,2,7,3],[11,12,5,15,8,0,2,13,10,3,7,9,14,6,1,4],[7,3,13,11,9,1,12,14,2,5,4,15,6,10,0,8],[9,5,2,10,0,7,4,15,14,11,6,3,1,12,8,13],[2,6,0,8,12,10,11,3,4,7,15,1,13,5,14,9],[12,1,14,4,5,15,13,10,0,6,9,8,7,3,2,11],[13,7,12,3,11,14,1,9,5,15,8,2,0,4,6,10],[6,14,11,0,15,9,3,8,12,13,1,10,2,7,4,5],[10,8,7,1,2,4,6,5,15,9,3,13,11,14,12,0],[0,2,4,6,1,3,5,7,8,10,12,14,9,11,13,15],[14,4,9,13,10,8,15,6,1,0,11,5,12,2,7,3]]
def Ru(q:BitVec 64→BitVec 64→BitVec 64→BitVec 64→BitVec 64→BitVec 64→so)(h:bp)(b c aO:BitVec 64)(m:U 64):bp:=
 let a:=Rt q m acv ⟨h.dQ,h.ew,h.ey,h.ez,h.e4,h.e5,h.e6,h.e7,7640891576956012808#64,13503953896175478587#64,4354685564936845355#64,11912009170470909681#64,5840696475078001361#64^^^b,11170449401992604703#64^^^c,2270897969802886507#64^^^aO,6620516959819538809#64⟩
 ⟨h.dQ^^^(a.dQ^^^a.xY),h.ew^^^(a.ew^^^a.xZ),h.ey^^^(a.ey^^^a.x3),h.ez^^^(a.ez^^^a.x4),h.e4^^^(a.e4^^^a.x5),h.e5^^^(a.e5^^^a.x6),h.e6^^^(a.e6^^^a.x7),h.e7^^^(a.e7^^^a.x8)⟩
def cm(h:bp)(a b aO:BitVec 64)(m:U 64):bp:=Ru J7 h a b aO m
def nK(a b:BitVec 64):List af:=[.num (.au a),.num (.au b)]
def kX(h:bp):List af:=[.num (.au h.dQ),.num (.au h.ew),.num (.au h.ey),.num (.au h.ez),.num (.au h.e4),.num (.au h.e5),.num (.au h.e6),.num (.au h.e7)]
def cy(a:U 8):U 8:=U.of ((List.range 128).map fun i=>a.l.getD i 0#8)
def j3(b a:BitVec 64):BitVec 64:=if(b+128#64).toNat<(128#64).toNat then a+1#64 else a
structure J8 where
 (h:bp)(aY c1:BitVec 64)(b:U 8)
def J9(a:List af)(d:List ah):Option J8:=
 match a with
 |[.ref (.ptr 0 (.c 0)),.ref (.ptr 1 (.c 0)),.num (.int .u64 (.c 18446744073709551615)),.ref (.sl 2 (.c 0) (.c 128) none)]=>
  match d with
  |[⟨.gen [.num (.au e),.num (.au h1),.num (.au h2),.num (.au h3),.num (.au h4),.num (.au f),.num (.au g),.num (.au h)],.own⟩,⟨.gen [.num (.au i),.num (.au j)],.own⟩,⟨.gen k,.own⟩]=>
   (match xX 128 k with
   |some b=>some ⟨⟨e,h1,h2,h3,h4,f,g,h⟩,i,j,b⟩|none=>none)
  |_=>none
 |_=>none
def sq:bT J8 where
 d0:=⟨⟨0,0,0,0,0,0,0,0⟩,0,0,0⟩
 read:=J9
 args:=fun⟨_,_,_,_⟩=>[.P 0,.P 1,.num (.int .u64 (.c 18446744073709551615)),.ref (.sl 2 (.c 0) (.c 128) none)]
 heap:=fun⟨h,a,d,b⟩=>[⟨.gen [.num (.au h.dQ),.num (.au h.ew),.num (.au h.ey),.num (.au h.ez),.num (.au h.e4),.num (.au h.e5),.num (.au h.e6),.num (.au h.e7)],.own⟩,⟨.gen [.num (.au a),.num (.au d)],.own⟩,⟨.gen (jY b 128),.own⟩]
 out:=fun⟨h,a,d,b⟩=>[⟨.gen (kX (cm h (a+128#64) (j3 a d) 18446744073709551615#64 (e8 b 0))),.own⟩,⟨.gen (nK (a+128#64) (j3 a d)),.own⟩,⟨.gen (jY b 128),.own⟩]
 val:=fun⟨_,_,_,_⟩=>(.bx [])
 aS:=fun⟨_,_,_,_⟩=>decide (True)
def acw(a:List af)(b:List ah)(d:J8)(h:sq.read a b=some d):a=sq.args d∧b=sq.heap d:=by
 replace h:J9 a b=some d:=h;unfold J9 at h;split at h
 case h_2=>cases h
 split at h
 case h_2=>cases h
 split at h
 case h_2=>cases h
 rename_i c;obtain⟨rfl,_⟩:=C1 c;cases h;exact⟨rfl,rfl⟩
def acy(h:bp)(a c:BitVec 64)(b:U 8):sq.cB ⟨h,a,c,b⟩ (b6 3) (bY cr aQ 122) [false] [⟨.gen (kX (cm h (a+128#64) c 18446744073709551615#64 (e8 b 0))),.own⟩,⟨.gen (nK (a+128#64) c),.own⟩,⟨.gen (jY b 128),.own⟩] (.bx []) [(decide ((a+(128#64)).toNat<(128#64).toNat)==false)]:=by show _=_;kernel_rfl
def acz(h:bp)(a c:BitVec 64)(b:U 8):sq.cB ⟨h,a,c,b⟩ (b6 3) (bY cr aQ 122) [true] [⟨.gen (kX (cm h (a+128#64) (c+1#64) 18446744073709551615#64 (e8 b 0))),.own⟩,⟨.gen (nK (a+128#64) (c+1#64)),.own⟩,⟨.gen (jY b 128),.own⟩] (.bx []) [(decide ((a+(128#64)).toNat<(128#64).toNat)==true)]:=by show _=_;kernel_rfl
def acA:br 122 sq.spec:=by
 refine sq.ok (dm fL (cK _)) acw ?_;rintro⟨h,a,c,b⟩ f;by_cases d:(a+128#64).toNat<(128#64).toNat
 ·have e:sq.out ⟨h,a,c,b⟩=([⟨.gen (kX (cm h (a+128#64) (c+1#64) 18446744073709551615#64 (e8 b 0))),.own⟩,⟨.gen (nK (a+128#64) (c+1#64)),.own⟩,⟨.gen (jY b 128),.own⟩]:List ah):=by
   show([⟨.gen (kX (cm h (a+128#64) (j3 a c) 18446744073709551615#64 (e8 b 0))),.own⟩,⟨.gen (nK (a+128#64) (j3 a c)),.own⟩,⟨.gen (jY b 128),.own⟩]:List ah)=_;unfold j3;rw[av d]
  rw[e];refine⟨[true],some [0,1,2],_,acz h a c b,?_⟩
  repeat'(refine ax ?_ ?_)
  all_goals first|exact aV|rfl|(simp only[eT,Bv,zb,ni,jM,w7]<;>exact d)
 ·have e:sq.out ⟨h,a,c,b⟩=([⟨.gen (kX (cm h (a+128#64) c 18446744073709551615#64 (e8 b 0))),.own⟩,⟨.gen (nK (a+128#64) c),.own⟩,⟨.gen (jY b 128),.own⟩]:List ah):=by
   show([⟨.gen (kX (cm h (a+128#64) (j3 a c) 18446744073709551615#64 (e8 b 0))),.own⟩,⟨.gen (nK (a+128#64) (j3 a c)),.own⟩,⟨.gen (jY b 128),.own⟩]:List ah)=_;unfold j3;rw[ak d]
  rw[e];refine⟨[false],some [0,1,2],_,acy h a c b,?_⟩
  repeat'(refine ax ?_ ?_)
  all_goals first|exact aV|rfl|(simp only[eT,Bv,zb,ni,jM,w7]<;>exact d)
def cZ(h:bp)(a b:BitVec 64)(d:Int)(e:U 8)(f:Int)(g:U 8):List af:=kX h++[.num (.au a),.num (.au b),.num (.int .i64 (.s d))]++jY e 128++[.num (.int .i64 (.s f))]++jY g 128++[.num (.int .i64 (.c 0))]
def tO(l:List af):Option (bp×BitVec 64×BitVec 64×Int×U 8×Int×U 8):=
 match l with
 |(.num (.au b))::(.num (.au h1))::(.num (.au h2))::(.num (.au h3))::(.num (.au h4))::(.num (.au d))::(.num (.au e))::(.num (.au f))::(.num (.au g))::(.num (.au h))::(.num (.int .i64 (.s i)))::a=>
  match xX 128 (a.take 128),a.drop 128 with
  |some j,((.num (.int .i64 (.s k)))::z)=>
   match xX 128 (z.take 128),z.drop 128 with
   |some m,[.num (.int .i64 (.c 0))]=>some (⟨b,h1,h2,h3,h4,d,e,f⟩,g,h,i,j,k,m)|_,_=>none
  |_,_=>none
 |_=>none
def x9{l:List af}{d:bp}{e f:BitVec 64}{g i:Int}{j k:U 8}(h:tO l=some (d,e,f,g,j,i,k)):l=cZ d e f g j i k:=by
 unfold tO at h;split at h
 case h_2=>cases h
 split at h
 case h_2=>cases h
 rename_i a b;obtain⟨c,_⟩:=C1 a;cases F6 c b;split at h
 case h_2=>cases h
 rename_i a b;obtain⟨c,_⟩:=C1 a;cases F6 c b;cases h;simp[cZ,kX]
structure Ka where
 (h:bp)(aY c1:BitVec 64)(ku:Int)(o3:U 8)(kw:Int)(kb:U 8)
def Kb(a:List af)(b:List ah):Option Ka:=
 match a with
 |[.ref (.ptr 0 (.c 0)),.ref (.ptr 0 (.c 8)),.num (.int .u64 (.c 0)),.ref (.sl 0 (.c 11) (.c 128) none)]=>
  match b with
  |[⟨.gen d,.own⟩]=>
   (match tO d with
   |some (h,e,f,g,i,j,k)=>some ⟨h,e,f,g,i,j,k⟩|none=>none)
  |_=>none
 |_=>none
def vN:bT Ka where
 d0:=⟨⟨0,0,0,0,0,0,0,0⟩,0,0,0,0,0,0⟩
 read:=Kb
 args:=fun⟨_,_,_,_,_,_,_⟩=>[.P 0,.ref (.ptr 0 (.c 8)),.num (.int .u64 (.c 0)),.ref (.sl 0 (.c 11) (.c 128) none)]
 heap:=fun⟨h,a,b,e,d,f,g⟩=>[⟨.gen (cZ h a b e d f g),.own⟩]
 out:=fun⟨h,a,b,e,d,f,g⟩=>[⟨.gen (cZ (cm h (a+128#64) b 0#64 (e8 d 0)) (a+128#64) b e (cy d) f (cy g)),.own⟩]
 val:=fun⟨_,_,_,_,_,_,_⟩=>(.bx [])
 aS:=fun⟨_,a,_,_,_,_,_⟩=>decide (¬(a+128#64).toNat<(128#64).toNat)
def acB(h:bp)(a b:BitVec 64)(c:Int)(d:U 8)(e:Int)(f:U 8):vN.fS ⟨h,a,b,c,d,e,f⟩ (some [0]) (bY cr aQ 122) [false] [(decide ((a+(128#64)).toNat<(128#64).toNat)==false)]:=by show _=_;kernel_rfl
def acC(a:List af)(b:List ah)(d:Ka)(h:vN.read a b=some d):a=vN.args d∧b=vN.heap d:=by
 replace h:Kb a b=some d:=h;unfold Kb at h;split at h
 case h_2=>cases h
 split at h
 case h_2=>cases h
 split at h
 case h_2=>cases h
 rename_i c;cases x9 c;cases h;exact⟨rfl,rfl⟩
def Rv:br 122 vN.spec:=by
 refine vN.ok (dm fL (cK _)) acC ?_;rintro⟨h,b,c,d,e,f,g⟩ a;have a:=aZ a;refine⟨[false],(some [0]),_,acB h b c d e f g,?_⟩
 repeat'(refine ax ?_ ?_)
 all_goals first|exact aV|rfl|(simp only[cz]<;>omega)
end
section
open Go.aA
def vO(a:BitVec 64)(n:Nat):BitVec 64:=a>>>n|||a<<<(64-n)
def p5(a:BitVec 64):BitVec 64:=(a.setWidth 32).setWidth 64
def l5(a b c d:BitVec 64):so:=
 let e:=a+(b+2#64*p5 a*p5 b);let f:=vO (d^^^e) 32;let g:=c+(f+2#64*p5 c*p5 f);let h:=vO (b^^^g) 24;let i:=e+(h+2#64*p5 e*p5 h);let d2:=vO (f^^^i) 16;let j:=g+(d2+2#64*p5 g*p5 d2)
 ⟨i,vO (h^^^j) 63,j,d2⟩
def Rw(v:kr):kr:=
 match v with
 |⟨i,j,k,l,gI,m,n,o,p,q,r,s,t,u,w,x⟩=>
  let e:=l5 i gI p t;let B:=l5 j m q u;let C:=l5 k n r w;let D:=l5 l o s x;let f:=l5 e.a B.b C.c D.d;let g:=l5 B.a C.b D.c e.d;let G:=l5 C.a D.b e.c B.d;let h:=l5 D.a e.b B.c C.d
  ⟨f.a,g.a,G.a,h.a,h.b,f.b,g.b,G.b,G.c,h.c,f.c,g.c,g.d,G.d,h.d,f.d⟩
def Rx(a:List Nat)(t:U 64):kr:=
 match a with
 |[b,c,d,e,f,g,h,i,j,k,m,n,o,p,q,r]=>⟨t.l.getD b 0#64,t.l.getD c 0#64,t.l.getD d 0#64,t.l.getD e 0#64,t.l.getD f 0#64,t.l.getD g 0#64,t.l.getD h 0#64,t.l.getD i 0#64,t.l.getD j 0#64,t.l.getD k 0#64,t.l.getD m 0#64,t.l.getD n 0#64,t.l.getD o 0#64,t.l.getD p 0#64,t.l.getD q 0#64,t.l.getD r 0#64⟩|_=>⟨0#64,0#64,0#64,0#64,0#64,0#64,0#64,0#64,0#64,0#64,0#64,0#64,0#64,0#64,0#64,0#64⟩
def Ry(a:kr):List (BitVec 64):=[a.dQ,a.ew,a.ey,a.ez,a.e4,a.e5,a.e6,a.e7,a.xY,a.xZ,a.x3,a.x4,a.x5,a.x6,a.x7,a.x8]
def vP:List Nat→List (BitVec 64)→U 64→U 64|i::r,a::b,t=>vP r b (t.set i a)|_,_,t=>t
def o4(a:List Nat)(t:U 64):U 64:=vP a (Ry (Rw (Rx a t))) t
def fY:List (List Nat)→U 64→U 64|[],t=>t|a::r,t=>fY r (o4 a t)
def hJ:List (List Nat):=(List.range 8).map (fun k=>(List.range 16).map fun j=>16*k+j)++(List.range 8).map fun k=>(List.range 16).map fun j=>2*k+16*(j/2)+j%2
def Kc:∀(b:List Nat) (a:List (BitVec 64)) (t:U 64),(vP b a t).n=t.n|[],_,_=>rfl|_::_,[],_=>rfl|i::r,c::a,t=>(Kc r a (t.set i c)).trans rfl
def acD(a:List Nat)(t:U 64):(o4 a t).n=t.n:=Kc _ _ _
def ya:∀(l:List (List Nat)) (t:U 64),(fY l t).n=t.n|[],_=>rfl|a::r,t=>(ya r (o4 a t)).trans (acD a t)
end
section
open Go.aA
variable [aR][aF][bq]
structure Rz where
 (t:U 64)(Ar CC aoM aoN aoO aoQ aoR aoS aoT aoU aoV aoW aoX aoY aoZ ao0:Nat)
def Kd(a:List af)(b:List ah):Option Rz:=
 match a with
 |[.ref (.ptr 0 (.s c)),.ref (.ptr 0 (.s d)),.ref (.ptr 0 (.s e)),.ref (.ptr 0 (.s f)),.ref (.ptr 0 (.s g)),.ref (.ptr 0 (.s h)),.ref (.ptr 0 (.s i)),.ref (.ptr 0 (.s j)),.ref (.ptr 0 (.s k)),.ref (.ptr 0 (.s l)),.ref (.ptr 0 (.s m)),.ref (.ptr 0 (.s n)),.ref (.ptr 0 (.s o)),.ref (.ptr 0 (.s p)),.ref (.ptr 0 (.s q)),.ref (.ptr 0 (.s r))]=>
  match b with
  |[⟨.bt t,.own⟩]=>some ⟨t,c,d,e,f,g,h,i,j,k,l,m,n,o,p,q,r⟩|_=>none
 |_=>none
def C5:bT Rz where
 d0:=⟨0,0,0,0,0,0,0,0,0,0,0,0,0,0,0,0,0⟩
 read:=Kd
 args:=fun⟨_,a,b,c,d,e,f,g,h,i,j,k,l,m,o,p,q⟩=>[.ref (.ptr 0 (.s a)),.ref (.ptr 0 (.s b)),.ref (.ptr 0 (.s c)),.ref (.ptr 0 (.s d)),.ref (.ptr 0 (.s e)),.ref (.ptr 0 (.s f)),.ref (.ptr 0 (.s g)),.ref (.ptr 0 (.s h)),.ref (.ptr 0 (.s i)),.ref (.ptr 0 (.s j)),.ref (.ptr 0 (.s k)),.ref (.ptr 0 (.s l)),.ref (.ptr 0 (.s m)),.ref (.ptr 0 (.s o)),.ref (.ptr 0 (.s p)),.ref (.ptr 0 (.s q))]
 heap:=fun⟨t,_,_,_,_,_,_,_,_,_,_,_,_,_,_,_,_⟩=>[⟨.bt t,.own⟩]
 out:=fun⟨t,a,b,c,d,e,f,g,h,i,j,k,l,m,o,p,q⟩=>[⟨.bt (o4 [a,b,c,d,e,f,g,h,i,j,k,l,m,o,p,q] t),.own⟩]
 val:=fun⟨_,_,_,_,_,_,_,_,_,_,_,_,_,_,_,_,_⟩=>(.bx [])
 aS:=fun⟨t,a,b,c,d,e,f,g,h,i,j,k,l,m,o,p,q⟩=>decide (a<t.n∧b<t.n∧c<t.n∧d<t.n∧e<t.n∧f<t.n∧g<t.n∧h<t.n∧i<t.n∧j<t.n∧k<t.n∧l<t.n∧m<t.n∧o<t.n∧p<t.n∧q<t.n)
def acE(t:U 64)(a b c d e f g h i j k l m o p q:Nat):C5.fS ⟨t,a,b,c,d,e,f,g,h,i,j,k,l,m,o,p,q⟩ (some [0]) (bY cr aQ 86) [] [decide (q<t.n),decide (p<t.n),decide (o<t.n),decide (m<t.n),decide (l<t.n),decide (k<t.n),decide (j<t.n),decide (i<t.n),decide (h<t.n),decide (g<t.n),decide (f<t.n),decide (e<t.n),decide (d<t.n),decide (c<t.n),decide (b<t.n),decide (a<t.n),decide (q<t.n),decide (p<t.n),decide (o<t.n),decide (m<t.n),decide (l<t.n),decide (k<t.n),decide (j<t.n),decide (i<t.n),decide (h<t.n),decide (g<t.n),decide (f<t.n),decide (e<t.n),decide (d<t.n),decide (c<t.n),decide (b<t.n),decide (a<t.n)]:=by show _=_;kernel_rfl
def acF:C5.Rd:=by
 intro a b d h;change Kd a b=some d at h;unfold Kd at h;repeat' split at h
 all_goals cases h
 exact⟨rfl,rfl⟩
def acG:br 86 C5.spec:=by
 refine C5.ok (dm fL (cK _)) acF ?_;rintro⟨t,b,c,d,e,f,g,h,i,j,k,l,m,n,o,p,q⟩ a;have a:=aZ a;refine⟨[],(some [0]),_,acE t b c d e f g h i j k l m n o p q,?_⟩
 repeat'(refine ax ?_ ?_)
 all_goals first|exact aV|rfl|(simp only[cz]<;>omega)
def C6:FuncId→Option aA.Spec|86=>some C5.spec|_=>none
def Ke:∀f a,C6 f=some a→br f a:=by
 intro f a h;unfold C6 at h;split at h
 ·cases h;exact acG
 ·cases h
def kY(a b:U 64):U 64:=U.of ((List.range 128).map fun i=>a.l.getD i 0#64^^^b.l.getD i 0#64)
def bw(a b:U 64):U 64:=U.of ((List.range 128).map fun i=>(a.l.getD i 0#64^^^b.l.getD i 0#64)^^^(fY hJ (kY a b)).l.getD i 0#64)
def As(a:List Nat)(t:U 64):Bool:=
 match a with
 |[b,c,d,e,f,g,h,i,j,k,l,m,o,p,q,r]=>decide (b<t.n∧c<t.n∧d<t.n∧e<t.n∧f<t.n∧g<t.n∧h<t.n∧i<t.n∧j<t.n∧k<t.n∧l<t.n∧m<t.n∧o<t.n∧p<t.n∧q<t.n∧r<t.n)|_=>true
def acH(t:U 64)(b:t.n=128)(l:List (List Nat)):∀k,k<16→As (hJ.getD (15-k) []) (fY l t)=true:=by
 intro k d;have c:(fY l t).n=128:=(ya _ _).trans b;have h:∀a:List Nat,(∀i∈a,i<128)→As a (fY l t)=true:=by
  intro a hi;unfold As;split
  ·rw[c];exact bl ⟨hi _ (by simp),hi _ (by simp),hi _ (by simp),hi _ (by simp),hi _ (by simp),hi _ (by simp),hi _ (by simp),hi _ (by simp),hi _ (by simp),hi _ (by simp),hi _ (by simp),hi _ (by simp),hi _ (by simp),hi _ (by simp),hi _ (by simp),hi _ (by simp)⟩
  ·rfl
 refine h _ ?_;revert k;decide
def RA(a c:U 64):∀b∈(List.range 128).reverse.map (fun i=>decide (i<(fY hJ (kY a c)).n))++(List.range 16).map (fun k=>As (hJ.getD (15-k) []) (fY (hJ.take (15-k)) (kY a c))),b=true:=by
 intro b d;rw[fR,zc,zc]at d;rcases d with⟨i,hi,rfl⟩|⟨k,e,rfl⟩
 ·refine bl ?_;rw[ya];exact List.mem_range.mp (List.mem_reverse.mp hi)
 ·exact acH _ rfl _ k (List.mem_range.mp e)
structure Gb where
 (u x y:U 64)
def Kf(a:List af)(b:List ah):Option Gb:=
 match a with
 |[.ref (.ptr 0 (.c 0)),.ref (.ptr 1 (.c 0)),.ref (.ptr 2 (.c 0)),.atom (.bool (.c false))]=>
  match b with
  |[⟨.gen d,.own⟩,⟨.gen e,.own⟩,⟨.gen f,.ro⟩]=>
   (match jZ 128 d with
   |some u=>
   (match jZ 128 e with
   |some g=>
   (match jZ 128 f with
   |some h=>some ⟨u,g,h⟩|none=>none)
   |none=>none)
   |none=>none)
  |_=>none
 |_=>none
def vQ:bT Gb where
 d0:=⟨0,0,0⟩
 read:=Kf
 args:=fun⟨_,_,_⟩=>[.P 0,.P 1,.P 2,.atom (.bool (.c false))]
 heap:=fun⟨u,a,b⟩=>[⟨.gen (dS u 128),.own⟩,⟨.gen (dS a 128),.own⟩,⟨.gen (dS b 128),.ro⟩]
 out:=fun⟨_,a,b⟩=>[⟨.gen (dS (bw a b) 128),.own⟩,⟨.gen (dS a 128),.own⟩,⟨.gen (dS b 128),.ro⟩]
 val:=fun⟨_,_,_⟩=>(.bx [])
 aS:=fun⟨_,_,_⟩=>decide (True)
def acI(u a b:U 64):vQ.fS ⟨u,a,b⟩ (b6 3) (bY C6 aQ 58) [] ((List.range 128).reverse.map (fun i=>decide (i<(fY hJ (kY a b)).n))++(List.range 16).map (fun k=>As (hJ.getD (15-k) []) (fY (hJ.take (15-k)) (kY a b)))):=by show _=_;kernel_rfl
def acJ(a:List af)(b:List ah)(d:Gb)(h:vQ.read a b=some d):a=vQ.args d∧b=vQ.heap d:=by
 replace h:Kf a b=some d:=h;unfold Kf at h;split at h
 case h_2=>cases h
 split at h
 case h_2=>cases h
 split at h
 case h_2=>cases h
 rename_i c;obtain⟨rfl,_⟩:=kW c;split at h
 case h_2=>cases h
 rename_i e;obtain⟨rfl,_⟩:=kW e;split at h
 case h_2=>cases h
 rename_i f;obtain⟨rfl,_⟩:=kW f;cases h;exact⟨rfl,rfl⟩
def acK:br 58 vQ.spec:=by
 refine vQ.ok (dm Ke (cK _)) acJ ?_;rintro⟨u,a,b⟩ c;refine⟨[],(b6 3),_,acI u a b,?_⟩;exact RA a b
structure Gc where
 (x y:U 64)
def Kg(a:List af)(b:List ah):Option Gc:=
 match a with
 |[.ref (.ptr 0 (.c 0)),.ref (.ptr 0 (.c 0)),.ref (.ptr 1 (.c 0)),.atom (.bool (.c false))]=>
  match b with
  |[⟨.gen d,.own⟩,⟨.gen e,.ro⟩]=>
   (match jZ 128 d with
   |some f=>
   (match jZ 128 e with
   |some g=>some ⟨f,g⟩|none=>none)
   |none=>none)
  |_=>none
 |_=>none
def vR:bT Gc where
 d0:=⟨0,0⟩
 read:=Kg
 args:=fun⟨_,_⟩=>[.P 0,.P 0,.P 1,.atom (.bool (.c false))]
 heap:=fun⟨b,a⟩=>[⟨.gen (dS b 128),.own⟩,⟨.gen (dS a 128),.ro⟩]
 out:=fun⟨b,a⟩=>[⟨.gen (dS (bw b a) 128),.own⟩,⟨.gen (dS a 128),.ro⟩]
 val:=fun⟨_,_⟩=>(.bx [])
 aS:=fun⟨_,_⟩=>decide (True)
def acL(a b:U 64):vR.fS ⟨a,b⟩ (b6 2) (bY C6 aQ 58) [] ((List.range 128).reverse.map (fun i=>decide (i<(fY hJ (kY a b)).n))++(List.range 16).map (fun k=>As (hJ.getD (15-k) []) (fY (hJ.take (15-k)) (kY a b)))):=by show _=_;kernel_rfl
def acM(a:List af)(b:List ah)(d:Gc)(h:vR.read a b=some d):a=vR.args d∧b=vR.heap d:=by
 replace h:Kg a b=some d:=h;unfold Kg at h;split at h
 case h_2=>cases h
 split at h
 case h_2=>cases h
 split at h
 case h_2=>cases h
 rename_i c;obtain⟨rfl,_⟩:=kW c;split at h
 case h_2=>cases h
 rename_i e;obtain⟨rfl,_⟩:=kW e;cases h;exact⟨rfl,rfl⟩
def acN:br 58 vR.spec:=by
 refine vR.ok (dm Ke (cK _)) acM ?_;rintro⟨a,b⟩ c;refine⟨[],(b6 2),_,acL a b,?_⟩;exact RA a b
abbrev cw:=Nat→Bool→Bool
def ek(f:cw)(a:Nat)(w:Bool):Bool:=(List.range 128).all fun j=>f (a+j) w
def yb{f:cw}{a:Nat}{w:Bool}(h:ek f a w=true){i:Int}(b:0≤i)(h1:i<128):f (a+i.toNat*1) w=true:=by
 unfold ek at h;rw[xb]at h;have:=h i.toNat (oy.2 (by omega))
 rwa[w8]
def At(X T:U 64)(a b:Nat)(i:Int):U 64:=T.set (0+i.toNat*1) (X.l.getD (a+i.toNat*1) 0#64^^^X.l.getD (b+i.toNat*1) 0#64)
def vS(X T:U 64)(a b c:Nat)(i:Int):U 64:=X.set (a+i.toNat*1) (X.l.getD (a+i.toNat*1) 0#64^^^((X.l.getD (b+i.toNat*1) 0#64^^^X.l.getD (c+i.toNat*1) 0#64)^^^T.l.getD (0+i.toNat*1) 0#64))
def acO(X T:U 64)(a b:Nat)(i:Int):(At X T a b i).n=T.n:=rfl
def acP(X T:U 64)(a b c:Nat)(i:Int):(vS X T a b c i).n=X.n:=rfl
structure Au where
 (f:cw)(X T:U 64)(bA bz bH:Nat)(i:Int)
def acQ(d:Au):aI×List ah:=
 match d with
 |⟨f,X,T,a,b,e,i⟩=>(⟨[.ref (.ptr 0 (.s a)),.ref (.ptr 0 (.s b)),.ref (.ptr 0 (.s e)),.atom (.bool (.c true)),.aa,.aa,.aa,.aa,.P 1,.aa,.aa,.aa,.aa,.aa],[⟨14,.aq i⟩]⟩,[⟨.lim f X,.own⟩,⟨.bt T,.own⟩])
def tP(d:Au):Au:=
 match d with
 |⟨f,X,T,c,a,b,i⟩=>⟨f,X,At X T a b i,c,a,b,i+1⟩
def Kh(a:aI)(b:List ah):Option Au:=
 match a with
 |⟨[.ref (.ptr 0 (.s d)),.ref (.ptr 0 (.s e)),.ref (.ptr 0 (.s g)),.atom (.bool (.c true)),.atom .aa,.atom .aa,.atom .aa,.atom .aa,.ref (.ptr 1 (.c 0)),.atom .aa,.atom .aa,.atom .aa,.atom .aa,.atom .aa],[⟨14,.num (.int .i64 (.s i))⟩]⟩=>
  match b with
  |[⟨.lim f X,.own⟩,⟨.bt T,.own⟩]=>some ⟨f,X,T,d,e,g,i⟩|_=>none
 |_=>none
def nL:eN Au where
 d0:=⟨fun _ _=>false,0,0,0,0,0,0⟩
 read:=Kh
 ay:=acQ
 next:=tP
 rem:=fun⟨_,_,_,_,_,_,i⟩=>(128-i).toNat
 aS:=fun⟨f,X,T,c,a,b,i⟩=>decide (0≤i∧i≤128∧T.n=128∧c+128≤X.n∧a+128≤X.n∧b+128≤X.n∧ek f a false=true∧ek f b false=true)
 out:=.exit 0
def acR(f:cw)(X T:U 64)(c a b:Nat)(i:Int):nL.cB ⟨f,X,T,c,a,b,i⟩ (b6 2) (nL.ay (tP ⟨f,X,T,c,a,b,i⟩)) (bZ cr aQ 58 0) [true] .normal [bV (i+1),decide ((0+(i.toNat*1))<T.n),(decide (0≤i)&&decide (i<(128:Int))),(f (b+(i.toNat*1)) false),decide ((b+(i.toNat*1))<X.n),(decide (0≤i)&&decide (i<(128:Int))),(f (a+(i.toNat*1)) false),decide ((a+(i.toNat*1))<X.n),(decide (0≤i)&&decide (i<(128:Int))),(decide (i<128)==true)]:=by show _=_;kernel_rfl
def acS(f:cw)(X T:U 64)(a b c:Nat)(i:Int):nL.cB ⟨f,X,T,a,b,c,i⟩ none (nL.fin ⟨f,X,T,a,b,c,i⟩) (bZ cr aQ 58 0) [false] nL.out [(decide (i<128)==false)]:=by show _=_;kernel_rfl
def acT:nL.Rd:=by
 intro a b d h;change Kh a b=some d at h;unfold Kh at h;repeat' split at h
 all_goals cases h
 rfl
def acU:dc Tryz.prog bB (aj 58) (bN Tryz.prog 58) (bg Tryz.prog 58 0) (bZ cr aQ 58 0):=iw fL (cK _) 58 0 J6 (by rw[show(cH Tryz.prog 58).length=5 by kernel_rfl];omega)
def acV:eH Tryz.prog bB (aj 58) (bN Tryz.prog 58) (bg Tryz.prog 58 0) nL.T.told:=by
 refine nL.j0 acU (by intro k g;have g:k∈([]:List ah):=g;cases g) (by intro h;cases h) acT ?_ ?_
 ·rintro⟨f,X,T,c,a,b,i⟩ q d e;have d:=aZ d;have e:(128-i).toNat=q+1:=e;have r:nL.next ⟨f,X,T,c,a,b,i⟩=tP ⟨f,X,T,c,a,b,i⟩:=rfl;rw[r];refine⟨⟨[true],(b6 2),_,acR f X T c a b i,?_⟩,?_,?_,(show(nL.ay (tP ⟨f,X,T,c,a,b,i⟩)).2.length=2 by kernel_rfl).trans (show(nL.ay ⟨f,X,T,c,a,b,i⟩).2.length=2 by kernel_rfl).symm⟩
  ·obtain⟨j,h1,h2,h3,h4,p,l,m⟩:=d
   repeat'(refine ax ?_ ?_)
   all_goals first|exact aV|exact yb l j (by omega)|exact yb m j (by omega)|(simp only[dH,jM,eT]<;>omega)
  ·have o:nL.aS (tP ⟨f,X,T,c,a,b,i⟩)=decide (0≤(i+1:Int)∧(i+1:Int)≤128∧(At X T a b i:U 64).n=128∧c+128≤X.n∧a+128≤X.n∧b+128≤X.n∧ek f a false=true∧ek f b false=true):=by kernel_rfl
   refine o.trans (bl ?_);have s:=acO X T a b i;obtain⟨j,h1,h2,h3,h4,p,l,m⟩:=d;exact⟨by omega,by omega,s.trans h2,h3,h4,p,l,m⟩
  ·have o:nL.rem (tP ⟨f,X,T,c,a,b,i⟩)=((128-(i+1:Int)).toNat):=by kernel_rfl
   refine o.trans ?_;omega
 ·rintro⟨f,X,T,c,a,b,i⟩ d e;have d:=aZ d;have e:(128-i).toNat=0:=e;refine⟨[false],none,_,acS f X T c a b i,?_⟩
  repeat'(refine ax ?_ ?_)
  all_goals first|exact aV|rfl|(simp only[cz]<;>omega)
def Ki:cP:=nL.T.told
def acW:Told 58 0 Ki:=acV.run
structure Av where
 (f:cw)(X T:U 64)(bA bz bH:Nat)(i:Int)
def acX(d:Av):aI×List ah:=
 match d with
 |⟨f,X,T,a,b,e,i⟩=>(⟨[.ref (.ptr 0 (.s a)),.ref (.ptr 0 (.s b)),.ref (.ptr 0 (.s e)),.atom (.bool (.c true)),.aa,.aa,.aa,.aa,.P 1,.aa,.aa,.aa,.aa,.aa],[⟨144,.aq i⟩]⟩,[⟨.lim f X,.own⟩,⟨.bt T,.own⟩])
def p6(d:Av):Av:=
 match d with
 |⟨f,X,T,a,b,c,i⟩=>⟨f,vS X T a b c i,T,a,b,c,i+1⟩
def Kj(a:aI)(b:List ah):Option Av:=
 match a with
 |⟨[.ref (.ptr 0 (.s d)),.ref (.ptr 0 (.s e)),.ref (.ptr 0 (.s g)),.atom (.bool (.c true)),.atom .aa,.atom .aa,.atom .aa,.atom .aa,.ref (.ptr 1 (.c 0)),.atom .aa,.atom .aa,.atom .aa,.atom .aa,.atom .aa],[⟨144,.num (.int .i64 (.s i))⟩]⟩=>
  match b with
  |[⟨.lim f X,.own⟩,⟨.bt T,.own⟩]=>some ⟨f,X,T,d,e,g,i⟩|_=>none
 |_=>none
def nM:eN Av where
 d0:=⟨fun _ _=>false,0,0,0,0,0,0⟩
 read:=Kj
 ay:=acX
 next:=p6
 rem:=fun⟨_,_,_,_,_,_,i⟩=>(128-i).toNat
 aS:=fun⟨f,X,T,a,b,c,i⟩=>decide (0≤i∧i≤128∧T.n=128∧a+128≤X.n∧b+128≤X.n∧c+128≤X.n∧ek f a false=true∧ek f a true=true∧ek f b false=true∧ek f c false=true)
 out:=.exit 6
def acY(f:cw)(X T:U 64)(a b c:Nat)(i:Int):nM.cB ⟨f,X,T,a,b,c,i⟩ (b6 2) (nM.ay (p6 ⟨f,X,T,a,b,c,i⟩)) (bZ cr aQ 58 3) [true] .normal [bV (i+1),(f (a+(i.toNat*1)) true),decide ((a+(i.toNat*1))<X.n),(decide (0≤i)&&decide (i<(128:Int))),decide ((0+(i.toNat*1))<T.n),(decide (0≤i)&&decide (i<(128:Int))),(f (c+(i.toNat*1)) false),decide ((c+(i.toNat*1))<X.n),(decide (0≤i)&&decide (i<(128:Int))),(f (b+(i.toNat*1)) false),decide ((b+(i.toNat*1))<X.n),(decide (0≤i)&&decide (i<(128:Int))),(f (a+(i.toNat*1)) false),decide ((a+(i.toNat*1))<X.n),(decide (0≤i)&&decide (i<(128:Int))),(decide (i<128)==true)]:=by show _=_;kernel_rfl
def acZ(f:cw)(X T:U 64)(a b c:Nat)(i:Int):nM.cB ⟨f,X,T,a,b,c,i⟩ none (nM.fin ⟨f,X,T,a,b,c,i⟩) (bZ cr aQ 58 3) [false] nM.out [(decide (i<128)==false)]:=by show _=_;kernel_rfl
def ac0:nM.Rd:=by
 intro a b d h;change Kj a b=some d at h;unfold Kj at h;repeat' split at h
 all_goals cases h
 rfl
def ac1:dc Tryz.prog bB (aj 58) (bN Tryz.prog 58) (bg Tryz.prog 58 3) (bZ cr aQ 58 3):=iw fL (cK _) 58 3 J6 (by rw[show(cH Tryz.prog 58).length=5 by kernel_rfl];omega)
def ac2:eH Tryz.prog bB (aj 58) (bN Tryz.prog 58) (bg Tryz.prog 58 3) nM.T.told:=by
 refine nM.j0 ac1 (by intro k j;have j:k∈([]:List ah):=j;cases j) (by intro h;cases h) ac0 ?_ ?_
 ·rintro⟨f,X,T,a,b,c,i⟩ t d e;have d:=aZ d;have e:(128-i).toNat=t+1:=e;have u:nM.next ⟨f,X,T,a,b,c,i⟩=p6 ⟨f,X,T,a,b,c,i⟩:=rfl;rw[u];refine⟨⟨[true],(b6 2),_,acY f X T a b c i,?_⟩,?_,?_,(show(nM.ay (p6 ⟨f,X,T,a,b,c,i⟩)).2.length=2 by kernel_rfl).trans (show(nM.ay ⟨f,X,T,a,b,c,i⟩).2.length=2 by kernel_rfl).symm⟩
  ·obtain⟨g,h1,h2,h3,h4,s,l,m,o,p⟩:=d
   repeat'(refine ax ?_ ?_)
   all_goals first|exact aV|exact yb l g (by omega)|exact yb m g (by omega)|exact yb o g (by omega)|exact yb p g (by omega)|(simp only[dH,jM,eT]<;>omega)
  ·have q:nM.aS (p6 ⟨f,X,T,a,b,c,i⟩)=decide (0≤(i+1:Int)∧(i+1:Int)≤128∧T.n=128∧a+128≤(vS X T a b c i:U 64).n∧b+128≤(vS X T a b c i:U 64).n∧c+128≤(vS X T a b c i:U 64).n∧ek f a false=true∧ek f a true=true∧ek f b false=true∧ek f c false=true):=by kernel_rfl
   refine q.trans (bl ?_);have r:=acP X T a b c i;obtain⟨g,h1,h2,h3,h4,s,l,m,o,p⟩:=d;exact⟨by omega,by omega,h2,by rw[r];exact h3,by rw[r];exact h4,by rw[r];exact s,l,m,o,p⟩
  ·have q:nM.rem (p6 ⟨f,X,T,a,b,c,i⟩)=((128-(i+1:Int)).toNat):=by kernel_rfl
   refine q.trans ?_;omega
 ·rintro⟨f,X,T,a,b,c,i⟩ d e;have d:=aZ d;have e:(128-i).toNat=0:=e;refine⟨[false],none,_,acZ f X T a b c i,?_⟩
  repeat'(refine ax ?_ ?_)
  all_goals first|exact aV|rfl|(simp only[cz]<;>omega)
def Kk:cP:=nM.T.told
def ac3:Told 58 3 Kk:=ac2.run
def p7:FuncId→Nat→Option cP|58,2=>some Ki|58,16=>some Kk|_,_=>none
def ac4:(cH Tryz.prog 58).length=5:=by kernel_rfl
def ac5(spec:FuncId→Option aA.Spec):c6 (de spec p7) bB:=by
 refine c6.of fun f=>?_;by_cases c:f=58
 ·subst c;refine .inr ⟨by kernel_rfl,fun i hi d a=>?_⟩;have hi:i<(cH Tryz.prog 58).length:=hi;rw[ac4]at hi;have e:i=0∨i=1∨i=2∨i=3∨i=4:=by omega
  rcases e with rfl|rfl|rfl|rfl|rfl
  ·have b:(bX (bg Tryz.prog 58 0)).bind (p7 58)=some Ki:=by kernel_rfl
   obtain rfl:=dV (b.symm.trans a);exact acW
  ·have b:(bX (bg Tryz.prog 58 1)).bind (p7 58)=none:=by kernel_rfl
   have a:(bX (bg Tryz.prog 58 1)).bind (p7 58)=some d:=a;rw[b]at a;cases a
  ·have b:(bX (bg Tryz.prog 58 2)).bind (p7 58)=none:=by kernel_rfl
   have a:(bX (bg Tryz.prog 58 2)).bind (p7 58)=some d:=a;rw[b]at a;cases a
  ·have b:(bX (bg Tryz.prog 58 3)).bind (p7 58)=some Kk:=by kernel_rfl
   obtain rfl:=dV (b.symm.trans a);exact ac3
  ·have b:(bX (bg Tryz.prog 58 4)).bind (p7 58)=none:=by kernel_rfl
   have a:(bX (bg Tryz.prog 58 4)).bind (p7 58)=some d:=a;rw[b]at a;cases a
 ·refine .inl fun r=>?_
  show p7 f r=none;unfold p7;split
  ·exact absurd rfl c
  ·exact absurd rfl c
  ·rfl
def jX(f:cw)(X:U 64)(a b c:Nat):Au:=iter tP ((128-(0:Int)).toNat) ⟨f,X,U.of (List.replicate 128 0#64),a,b,c,0⟩
def Gd(f:cw)(X:U 64)(a b c:Nat):Av:=iter p6 ((128-(0:Int)).toNat) ⟨f,(jX f X a b c).X,fY hJ (jX f X a b c).T,a,b,c,0⟩
def fl(f:cw)(X:U 64)(a b c:Nat):U 64:=(Gd f X a b c).X
def RB(f:cw)(X T:U 64)(d a b:Nat):∀k,∃c,iter tP k ⟨f,X,T,d,a,b,0⟩=⟨f,X,c,d,a,b,(k:Int)⟩∧c.n=T.n
 |0=>⟨T,rfl,rfl⟩|k+1=>by
  obtain⟨c,e,h⟩:=RB f X T d a b k;exact⟨At X c a b k,by rw[gB,e];rfl,h⟩
def RD(f:cw)(X:U 64)(a b c:Nat):(jX f X a b c).X=X∧(jX f X a b c).T.n=128∧(jX f X a b c).bA=a∧(jX f X a b c).bz=b∧(jX f X a b c).bH=c∧(jX f X a b c).f=f:=by
 obtain⟨d,e,h⟩:=RB f X (U.of (List.replicate 128 0#64)) a b c 128;have g:(U.of (List.replicate 128 0#64)).n=128:=by
  show(List.replicate 128 0#64).length=128;rw[nh]
 have i:jX f X a b c=⟨f,X,d,a,b,c,((128:Nat):Int)⟩:=e;rw[i];exact⟨rfl,h.trans g,rfl,rfl,rfl,rfl⟩
structure RE where
 (f:cw)(X:U 64)(bA bz bH:Nat)
def Kl(a:List af)(b:List ah):Option RE:=
 match a with
 |[.ref (.ptr 0 (.s d)),.ref (.ptr 0 (.s e)),.ref (.ptr 0 (.s g)),.atom (.bool (.c true))]=>
  match b with
  |[⟨.lim f X,.own⟩]=>some ⟨f,X,d,e,g⟩|_=>none
 |_=>none
def C7:bT RE where
 d0:=⟨fun _ _=>false,0,0,0,0⟩
 read:=Kl
 args:=fun⟨_,_,a,b,d⟩=>[.ref (.ptr 0 (.s a)),.ref (.ptr 0 (.s b)),.ref (.ptr 0 (.s d)),.atom (.bool (.c true))]
 heap:=fun⟨f,X,_,_,_⟩=>[⟨.lim f X,.own⟩]
 out:=fun⟨f,X,a,b,d⟩=>[⟨.lim f (fl f X a b d),.own⟩]
 val:=fun⟨_,_,_,_,_⟩=>(.bx [])
 aS:=fun⟨f,X,a,b,d⟩=>decide (a+128≤X.n∧b+128≤X.n∧d+128≤X.n∧ek f a false=true∧ek f a true=true∧ek f b false=true∧ek f d false=true)
def ac6(f:cw)(X:U 64)(a b c:Nat):C7.fS ⟨f,X,a,b,c⟩ (some [0]) (bY C6 p7 58) [] [decide (((0:Int)≤0∧((0:Int)≤128∧((128:Nat)=128∧((a+128)≤X.n∧((b+128)≤X.n∧((c+128)≤X.n∧((ek f a (false))=(true)∧((ek f a (true))=(true)∧((ek f b (false))=(true)∧(ek f c (false))=(true))))))))))),decide (((14:Nat)<128∧((15:Nat)<128∧((30:Nat)<128∧((31:Nat)<128∧((46:Nat)<128∧((47:Nat)<128∧((62:Nat)<128∧((63:Nat)<128∧((78:Nat)<128∧((79:Nat)<128∧((94:Nat)<128∧((95:Nat)<128∧((110:Nat)<128∧((111:Nat)<128∧((126:Nat)<128∧(127:Nat)<128)))))))))))))))),decide (((12:Nat)<128∧((13:Nat)<128∧((28:Nat)<128∧((29:Nat)<128∧((44:Nat)<128∧((45:Nat)<128∧((60:Nat)<128∧((61:Nat)<128∧((76:Nat)<128∧((77:Nat)<128∧((92:Nat)<128∧((93:Nat)<128∧((108:Nat)<128∧((109:Nat)<128∧((124:Nat)<128∧(125:Nat)<128)))))))))))))))),decide (((10:Nat)<128∧((11:Nat)<128∧((26:Nat)<128∧((27:Nat)<128∧((42:Nat)<128∧((43:Nat)<128∧((58:Nat)<128∧((59:Nat)<128∧((74:Nat)<128∧((75:Nat)<128∧((90:Nat)<128∧((91:Nat)<128∧((106:Nat)<128∧((107:Nat)<128∧((122:Nat)<128∧(123:Nat)<128)))))))))))))))),decide (((8:Nat)<128∧((9:Nat)<128∧((24:Nat)<128∧((25:Nat)<128∧((40:Nat)<128∧((41:Nat)<128∧((56:Nat)<128∧((57:Nat)<128∧((72:Nat)<128∧((73:Nat)<128∧((88:Nat)<128∧((89:Nat)<128∧((104:Nat)<128∧((105:Nat)<128∧((120:Nat)<128∧(121:Nat)<128)))))))))))))))),decide (((6:Nat)<128∧((7:Nat)<128∧((22:Nat)<128∧((23:Nat)<128∧((38:Nat)<128∧((39:Nat)<128∧((54:Nat)<128∧((55:Nat)<128∧((70:Nat)<128∧((71:Nat)<128∧((86:Nat)<128∧((87:Nat)<128∧((102:Nat)<128∧((103:Nat)<128∧((118:Nat)<128∧(119:Nat)<128)))))))))))))))),decide (((4:Nat)<128∧((5:Nat)<128∧((20:Nat)<128∧((21:Nat)<128∧((36:Nat)<128∧((37:Nat)<128∧((52:Nat)<128∧((53:Nat)<128∧((68:Nat)<128∧((69:Nat)<128∧((84:Nat)<128∧((85:Nat)<128∧((100:Nat)<128∧((101:Nat)<128∧((116:Nat)<128∧(117:Nat)<128)))))))))))))))),decide (((2:Nat)<128∧((3:Nat)<128∧((18:Nat)<128∧((19:Nat)<128∧((34:Nat)<128∧((35:Nat)<128∧((50:Nat)<128∧((51:Nat)<128∧((66:Nat)<128∧((67:Nat)<128∧((82:Nat)<128∧((83:Nat)<128∧((98:Nat)<128∧((99:Nat)<128∧((114:Nat)<128∧(115:Nat)<128)))))))))))))))),decide (((0:Nat)<128∧((1:Nat)<128∧((16:Nat)<128∧((17:Nat)<128∧((32:Nat)<128∧((33:Nat)<128∧((48:Nat)<128∧((49:Nat)<128∧((64:Nat)<128∧((65:Nat)<128∧((80:Nat)<128∧((81:Nat)<128∧((96:Nat)<128∧((97:Nat)<128∧((112:Nat)<128∧(113:Nat)<128)))))))))))))))),decide (((112:Nat)<128∧((113:Nat)<128∧((114:Nat)<128∧((115:Nat)<128∧((116:Nat)<128∧((117:Nat)<128∧((118:Nat)<128∧((119:Nat)<128∧((120:Nat)<128∧((121:Nat)<128∧((122:Nat)<128∧((123:Nat)<128∧((124:Nat)<128∧((125:Nat)<128∧((126:Nat)<128∧(127:Nat)<128)))))))))))))))),decide (((96:Nat)<128∧((97:Nat)<128∧((98:Nat)<128∧((99:Nat)<128∧((100:Nat)<128∧((101:Nat)<128∧((102:Nat)<128∧((103:Nat)<128∧((104:Nat)<128∧((105:Nat)<128∧((106:Nat)<128∧((107:Nat)<128∧((108:Nat)<128∧((109:Nat)<128∧((110:Nat)<128∧(111:Nat)<128)))))))))))))))),decide (((80:Nat)<128∧((81:Nat)<128∧((82:Nat)<128∧((83:Nat)<128∧((84:Nat)<128∧((85:Nat)<128∧((86:Nat)<128∧((87:Nat)<128∧((88:Nat)<128∧((89:Nat)<128∧((90:Nat)<128∧((91:Nat)<128∧((92:Nat)<128∧((93:Nat)<128∧((94:Nat)<128∧(95:Nat)<128)))))))))))))))),decide (((64:Nat)<128∧((65:Nat)<128∧((66:Nat)<128∧((67:Nat)<128∧((68:Nat)<128∧((69:Nat)<128∧((70:Nat)<128∧((71:Nat)<128∧((72:Nat)<128∧((73:Nat)<128∧((74:Nat)<128∧((75:Nat)<128∧((76:Nat)<128∧((77:Nat)<128∧((78:Nat)<128∧(79:Nat)<128)))))))))))))))),decide (((48:Nat)<128∧((49:Nat)<128∧((50:Nat)<128∧((51:Nat)<128∧((52:Nat)<128∧((53:Nat)<128∧((54:Nat)<128∧((55:Nat)<128∧((56:Nat)<128∧((57:Nat)<128∧((58:Nat)<128∧((59:Nat)<128∧((60:Nat)<128∧((61:Nat)<128∧((62:Nat)<128∧(63:Nat)<128)))))))))))))))),decide (((32:Nat)<128∧((33:Nat)<128∧((34:Nat)<128∧((35:Nat)<128∧((36:Nat)<128∧((37:Nat)<128∧((38:Nat)<128∧((39:Nat)<128∧((40:Nat)<128∧((41:Nat)<128∧((42:Nat)<128∧((43:Nat)<128∧((44:Nat)<128∧((45:Nat)<128∧((46:Nat)<128∧(47:Nat)<128)))))))))))))))),decide (((16:Nat)<128∧((17:Nat)<128∧((18:Nat)<128∧((19:Nat)<128∧((20:Nat)<128∧((21:Nat)<128∧((22:Nat)<128∧((23:Nat)<128∧((24:Nat)<128∧((25:Nat)<128∧((26:Nat)<128∧((27:Nat)<128∧((28:Nat)<128∧((29:Nat)<128∧((30:Nat)<128∧(31:Nat)<128)))))))))))))))),decide (((0:Nat)<128∧((1:Nat)<128∧((2:Nat)<128∧((3:Nat)<128∧((4:Nat)<128∧((5:Nat)<128∧((6:Nat)<128∧((7:Nat)<128∧((8:Nat)<128∧((9:Nat)<128∧((10:Nat)<128∧((11:Nat)<128∧((12:Nat)<128∧((13:Nat)<128∧((14:Nat)<128∧(15:Nat)<128)))))))))))))))),decide (((0:Int)≤0∧((0:Int)≤128∧((128:Nat)=128∧((a+128)≤X.n∧((b+128)≤X.n∧((c+128)≤X.n∧((ek f b (false))=(true)∧(ek f c (false))=(true)))))))))]:=by show _=_;kernel_rfl
def ac7:C7.Rd:=by
 intro a b d h;change Kl a b=some d at h;unfold Kl at h;repeat' split at h
 all_goals cases h
 exact⟨rfl,rfl⟩
def ac8:br 58 C7.spec:=by
 refine C7.ok (dm Ke (ac5 _)) ac7 ?_;rintro⟨f,X,b,c,d⟩ a;have a:=aZ a;refine⟨[],(some [0]),_,ac6 f X b c d,?_⟩;obtain⟨e,g,h,i,j,k⟩:=RD f X b c d;obtain⟨o,p,q,bf,l,m,n⟩:=a
 repeat'(refine ax ?_ ?_)
 all_goals first|exact aV|(simp only[dH,jM,eT,HU,uG,ya,e,g,h,i,j,k,bf,l,m,n]<;>omega)
def aK(X:U 64)(i:Nat):BitVec 64:=X.l.getD i 0#64
def Ge(a:BitVec 64):BitVec 64:=a&&&4294967295#64
def vT(X:U 64)(a b:Nat):U 64:=X.set a (aK X a+(aK X b+2#64*Ge (aK X a)*Ge (aK X b)))
def vU(X:U 64)(d a n m:Nat):U 64:=X.set d ((aK X d^^^aK X a)>>>n|||(aK X d^^^aK X a)<<<m)
def kz(X:U 64)(a b c d:Nat):U 64:=vU (vT (vU (vT (vU (vT (vU (vT X a b) d a 32 32) c d) b c 24 40) a b) d a 16 48) c d) b c 63 1
structure Km where
 (X:U 64)(a b c d:Nat)
def Kn(a:List af)(e:List ah):Option Km:=
 match a with
 |[.ref (.ptr 0 (.s a)),.ref (.ptr 0 (.s b)),.ref (.ptr 0 (.s c)),.ref (.ptr 0 (.s d))]=>
  match e with
  |[⟨.bt X,.own⟩]=>some ⟨X,a,b,c,d⟩|_=>none
 |_=>none
def Aw:bT Km where
 d0:=⟨0,0,0,0,0⟩
 read:=Kn
 args:=fun⟨_,a,b,c,d⟩=>[.ref (.ptr 0 (.s a)),.ref (.ptr 0 (.s b)),.ref (.ptr 0 (.s c)),.ref (.ptr 0 (.s d))]
 heap:=fun⟨X,_,_,_,_⟩=>[⟨.bt X,.own⟩]
 out:=fun⟨X,a,b,c,d⟩=>[⟨.bt (kz X a b c d),.own⟩]
 val:=fun⟨_,_,_,_,_⟩=>(.bx [])
 aS:=fun⟨X,a,b,c,d⟩=>decide (a<X.n∧b<X.n∧c<X.n∧d<X.n)
def ac9:Aw.Rd:=by
 intro a b d h;change Kn a b=some d at h;unfold Kn at h;repeat' split at h
 all_goals cases h
 exact⟨rfl,rfl⟩
def ada(X:U 64)(a b c d:Nat):Aw.fS ⟨X,a,b,c,d⟩ (some [0]) (bY cr aQ 55) [] [decide (b<X.n),decide (c<X.n),decide (b<X.n),decide (c<X.n),decide (d<X.n),decide (c<X.n),decide (d<X.n),decide (c<X.n),decide (d<X.n),decide (a<X.n),decide (d<X.n),decide (a<X.n),decide (b<X.n),decide (a<X.n),decide (b<X.n),decide (a<X.n),decide (b<X.n),decide (c<X.n),decide (b<X.n),decide (c<X.n),decide (d<X.n),decide (c<X.n),decide (d<X.n),decide (c<X.n),decide (d<X.n),decide (a<X.n),decide (d<X.n),decide (a<X.n),decide (b<X.n),decide (a<X.n),decide (b<X.n),decide (a<X.n)]:=by show _=_;kernel_rfl
def RF(X:U 64)(a b c d:Nat):(kz X a b c d).n=X.n:=rfl
def adb:br 55 Aw.spec:=by
 refine Aw.ok (dm fL (cK _)) ac9 ?_;rintro⟨X,a,b,c,d⟩ e;have e:=aZ e;obtain⟨f,g,h,bf⟩:=e;refine⟨_,_,_,ada X a b c d,?_⟩
 repeat'(refine ax ?_ ?_)
 all_goals first|exact aV|exact bl f|exact bl g|exact bl h|exact bl bf|rfl
abbrev Ax:=U 64→Nat→Nat→Nat→Nat→U 64
def RG(e:Ax):bT Km:={Aw with out:=fun⟨X,a,b,c,d⟩=>[⟨.bt (e X a b c d),.own⟩]}
def ade:RG kz=Aw:=rfl
def Ko(a:Ax):FuncId→Option aA.Spec|55=>some (RG a).spec|_=>none
def adf:∀f a,Ko kz f=some a→br f a:=by
 intro f a h;unfold Ko at h;split at h
 ·cases h;rw[ade];exact adb
 ·cases h
def l6(i:Int):Nat:=0+i.toNat*1
def Ay(i:Int):Bool:=decide ((0:Int)≤i)&&decide (i<((128:Nat):Int))
def Kp(a b c d e f g h i j k l m n o p:Int):List (Int×Int×Int×Int):=[(a,e,i,m),(b,f,j,n),(c,g,k,o),(d,h,l,p),(a,f,k,p),(b,g,l,m),(c,h,i,n),(d,e,j,o)]
def Kq(e:Ax):List (Int×Int×Int×Int)→U 64→U 64|[],X=>X|(a,b,c,d)::r,X=>Kq e r (e X (l6 a) (l6 b) (l6 c) (l6 d))
def Kr(e:Ax):List (Int×Int×Int×Int)→U 64→List Bool|[],_=>[]|(a,b,c,d)::r,X=>Kr e r (e X (l6 a) (l6 b) (l6 c) (l6 d))++[decide (l6 a<X.n∧l6 b<X.n∧l6 c<X.n∧l6 d<X.n),Ay d,Ay c,Ay b,Ay a]
def Ks(a:Ax)(X:U 64)(b c d e f g h i j k l m n o p q:Int):U 64:=Kq a (Kp b c d e f g h i j k l m n o p q) X
def Kt:∀l X,(Kq kz l X).n=X.n|[],X=>rfl|(a,b,c,d)::r,X=>(Kt r _).trans (RF ..)
def RH:∀(l:List (Int×Int×Int×Int)) (X:U 64),X.n=128→(∀t∈l,(0≤t.1∧t.1<128)∧(0≤t.2.1∧t.2.1<128)∧(0≤t.2.2.1∧t.2.2.1<128)∧0≤t.2.2.2∧t.2.2.2<128)→∀f∈Kr kz l X,f=true
 |[],X,_,_,f,e=>by cases e
 |(a,b,c,d)::r,X,i,h,f,e=>by
  have g:=h _ (lO ..);have hi:∀z:Int,0≤z∧z<128→Ay z=true∧l6 z<X.n:=fun z j=>⟨by unfold Ay;rw[bl j.1,bl (by omega)];rfl,by unfold l6;omega⟩;rcases fR.1 e with e|e
  ·exact RH r _ ((RF ..).trans i) (fun t k=>h t (m9 _ k)) f e
  ·have h1:=hi _ g.1;have h2:=hi _ g.2.1;have h3:=hi _ g.2.2.1;have h4:=hi _ g.2.2.2;exact ax (bl ⟨h1.2,h2.2,h3.2,h4.2⟩) (ax h4.1 (ax h3.1 (ax h2.1 (ax h1.1 aV)))) f e
structure Ku where
 (X:U 64)(i0 i1 i2 i3 i4 i5 i6 i7 i8 i9 i10 i11 i12 i13 i14 i15:Int)
def Kv(a:List af)(b:List ah):Option Ku:=
 match a with
 |[.ref (.ptr 0 (.c 0)),.agg [.num (.int .i64 (.s d)),.num (.int .i64 (.s e)),.num (.int .i64 (.s f)),.num (.int .i64 (.s g)),.num (.int .i64 (.s h)),.num (.int .i64 (.s i)),.num (.int .i64 (.s j)),.num (.int .i64 (.s k)),.num (.int .i64 (.s l)),.num (.int .i64 (.s m)),.num (.int .i64 (.s n)),.num (.int .i64 (.s o)),.num (.int .i64 (.s p)),.num (.int .i64 (.s q)),.num (.int .i64 (.s r)),.num (.int .i64 (.s t))]]=>
  match b with
  |[⟨.bt X,.own⟩]=>some ⟨X,d,e,f,g,h,i,j,k,l,m,n,o,p,q,r,t⟩|_=>none
 |_=>none
def tQ:bT Ku where
 d0:=⟨0,0,0,0,0,0,0,0,0,0,0,0,0,0,0,0,0⟩
 read:=Kv
 args:=fun⟨_,a,b,c,d,e,f,g,h,i,j,k,l,m,o,p,q⟩=>[.P 0,.agg [.aq a,.aq b,.aq c,.aq d,.aq e,.aq f,.aq g,.aq h,.aq i,.aq j,.aq k,.aq l,.aq m,.aq o,.aq p,.aq q]]
 heap:=fun⟨X,_,_,_,_,_,_,_,_,_,_,_,_,_,_,_,_⟩=>[⟨.bt X,.own⟩]
 out:=fun⟨X,a,b,c,d,e,f,g,h,i,j,k,l,m,o,p,q⟩=>[⟨.bt (Ks kz X a b c d e f g h i j k l m o p q),.own⟩]
 val:=fun⟨_,_,_,_,_,_,_,_,_,_,_,_,_,_,_,_,_⟩=>(.bx [])
 aS:=fun⟨X,a,b,c,d,e,f,g,h,i,j,k,l,m,o,p,q⟩=>decide ((0≤a∧a<128)∧(0≤b∧b<128)∧(0≤c∧c<128)∧(0≤d∧d<128)∧(0≤e∧e<128)∧(0≤f∧f<128)∧(0≤g∧g<128)∧(0≤h∧h<128)∧(0≤i∧i<128)∧(0≤j∧j<128)∧(0≤k∧k<128)∧(0≤l∧l<128)∧(0≤m∧m<128)∧(0≤o∧o<128)∧(0≤p∧p<128)∧(0≤q∧q<128)∧X.n=128)
def adg:tQ.Rd:=by
 intro a b d h;change Kv a b=some d at h;unfold Kv at h;repeat' split at h
 all_goals cases h
 exact⟨rfl,rfl⟩
def adh(q:Ax)(X:U 64)(a b c d e f g h i j k l m n o p:Int):tQ.cB ⟨X,a,b,c,d,e,f,g,h,i,j,k,l,m,n,o,p⟩ (some [0]) (bY (Ko q) aQ 39) [] [⟨.bt (Ks q X a b c d e f g h i j k l m n o p),.own⟩] (tQ.val ⟨X,a,b,c,d,e,f,g,h,i,j,k,l,m,n,o,p⟩) (Kr q (Kp a b c d e f g h i j k l m n o p) X):=by show _=_;kernel_rfl
def adi:br 39 tQ.spec:=by
 refine tQ.ok (dm adf (cK _)) adg ?_;rintro⟨X,q,r,s,u,v,w,x,y,z,A,B,C,D,E,F,H⟩ a;have a:=aZ a;obtain⟨b,c,d,e,bf,f,g,h,cE,i,j,k,l,m,n,o,I⟩:=a;refine⟨_,_,_,adh kz X q r s u v w x y z A B C D E F H,RH _ X I fun t p=>?_⟩;simp only[Kp,jN,HW,HX]at p;rcases p with rfl|rfl|rfl|rfl|rfl|rfl|rfl|rfl
 ·exact⟨b,bf,cE,l⟩
 ·exact⟨c,f,i,m⟩
 ·exact⟨d,g,j,n⟩
 ·exact⟨e,h,k,o⟩
 ·exact⟨b,f,j,o⟩
 ·exact⟨c,g,k,l⟩
 ·exact⟨d,h,cE,m⟩
 ·exact⟨e,bf,i,n⟩
def gC(a m c:BitVec 64)(d b:BitVec 32):BitVec 32:=d*b+((c+m-((((a&&&4294967295#64)*(a&&&4294967295#64))>>>32*m)>>>32+1#64))%b.setWidth 64).setWidth 32
def eI(a:BitVec 64)(p n sl k:BitVec 32):BitVec 32:=if n=0#32∧sl=0#32 then k else(a>>>32).setWidth 32%p
def gl(a n sl k b c:BitVec 32):BitVec 32:=if n=0#32 then(if sl=0#32∨k=c then sl*a+b else sl*a)else(if k=c then 3#32*a+b else 3#32*a)
def cq(a:BitVec 64)(d b p n sl k c:BitVec 32):BitVec 32:=
 gC a ((if c=0#32∨k=eI a p n sl k then gl b n sl k c (eI a p n sl k)-1#32 else gl b n sl k c (eI a p n sl k)).setWidth 64) ((if n=0#32 then 0#32 else((sl+1#32)%4#32)*b).setWidth 64) (eI a p n sl k) d
structure RI where
 (x:BitVec 64)(ln az p n sl k ix:BitVec 32)
def Kw(a:List af)(b:List ah):Option RI:=
 match a with
 |[.num (.au c),.num (.aD d),.num (.aD e),.num (.aD p),.num (.aD n),.num (.aD sl),.num (.aD k),.num (.aD f)]=>
  match b with
  |[]=>some ⟨c,d,e,p,n,sl,k,f⟩|_=>none
 |_=>none
def nN:bT RI where
 d0:=⟨0,0,0,0,0,0,0,0⟩
 read:=Kw
 args:=fun⟨c,a,d,p,n,sl,k,b⟩=>[.num (.au c),.num (.aD a),.num (.aD d),.num (.aD p),.num (.aD n),.num (.aD sl),.num (.aD k),.num (.aD b)]
 heap:=fun _=>[]
 val:=fun⟨c,a,d,p,n,sl,k,b⟩=>(.aD (cq c a d p n sl k b))
 aS:=fun⟨_,a,_,p,n,sl,_,b⟩=>decide (p≠0#32∧a≠0#32∧(n=0#32→sl=0#32→b≠0#32))
def adj:nN.Rd:=by
 intro a b d h;change Kw a b=some d at h;unfold Kw at h;repeat' split at h
 all_goals cases h
 exact⟨rfl,rfl⟩
def adk(c:BitVec 64)(b d p n sl k a:BitVec 32):nI 0 none [] (.aD (gC c ((sl*d+a-1#32).setWidth 64) ((0#32).setWidth 64) k b)) (bY cr aQ 46 (nN.args ⟨c,b,d,p,n,sl,k,a⟩) ⟨[],bJ,(bE 15 17407),[]⟩) [((b.setWidth 64)!=(0#64)),((k==k)==true),((a==(0#32))==false),((a==(0#32))==false),((a==(0#32))==false),((a==(0#32))==false),((sl==(0#32))==true),((sl==(0#32))==true),((sl==(0#32))==true),((sl==(0#32))==true),((n==(0#32))==true),((k==k)==true),((4#32)!=(0#32)),((sl==(0#32))==true),((n==(0#32))==true),((n==(0#32))==true),((n==(0#32))==true),(p !=(0#32))]:=by show _=_;kernel_rfl
def adl(b:BitVec 64)(c d p n sl k a:BitVec 32):nI 0 none [] (.aD (gC b ((sl*d+a-1#32).setWidth 64) ((0#32).setWidth 64) ((b>>>32).setWidth 32%p) c)) (bY cr aQ 46 (nN.args ⟨b,c,d,p,n,sl,k,a⟩) ⟨[],bJ,(bE 15 31799),[]⟩) [((c.setWidth 64)!=(0#64)),((a==(0#32))==true),((a==(0#32))==true),((a==(0#32))==true),((a==(0#32))==true),((k==(((b>>>32).setWidth 32)%p))==true),((sl==(0#32))==false),((sl==(0#32))==false),((sl==(0#32))==false),((sl==(0#32))==false),((n==(0#32))==true),((k==(((b>>>32).setWidth 32)%p))==true),((4#32)!=(0#32)),((sl==(0#32))==false),((n==(0#32))==true),((n==(0#32))==true),((n==(0#32))==true),(p !=(0#32))]:=by show _=_;kernel_rfl
def adm(a:BitVec 64)(c d p n sl k b:BitVec 32):nI 0 none [] (.aD (gC a ((sl*d+b-1#32).setWidth 64) ((0#32).setWidth 64) ((a>>>32).setWidth 32%p) c)) (bY cr aQ 46 (nN.args ⟨a,c,d,p,n,sl,k,b⟩) ⟨[],bJ,(bE 16 33847),[]⟩) [((c.setWidth 64)!=(0#64)),((k==(((a>>>32).setWidth 32)%p))==true),((b==(0#32))==false),((b==(0#32))==false),((b==(0#32))==false),((b==(0#32))==false),((k==(((a>>>32).setWidth 32)%p))==true),((sl==(0#32))==false),((sl==(0#32))==false),((sl==(0#32))==false),((sl==(0#32))==false),((n==(0#32))==true),((k==(((a>>>32).setWidth 32)%p))==true),((4#32)!=(0#32)),((sl==(0#32))==false),((n==(0#32))==true),((n==(0#32))==true),((n==(0#32))==true),(p !=(0#32))]:=by show _=_;kernel_rfl
def adn(a:BitVec 64)(c d p n sl k b:BitVec 32):nI 0 none [] (.aD (gC a ((sl*d-1#32).setWidth 64) ((0#32).setWidth 64) ((a>>>32).setWidth 32%p) c)) (bY cr aQ 46 (nN.args ⟨a,c,d,p,n,sl,k,b⟩) ⟨[],bJ,(bE 15 30759),[]⟩) [((c.setWidth 64)!=(0#64)),((b==(0#32))==true),((b==(0#32))==true),((b==(0#32))==true),((b==(0#32))==true),((k==(((a>>>32).setWidth 32)%p))==false),((sl==(0#32))==false),((sl==(0#32))==false),((sl==(0#32))==false),((sl==(0#32))==false),((n==(0#32))==true),((k==(((a>>>32).setWidth 32)%p))==false),((4#32)!=(0#32)),((sl==(0#32))==false),((n==(0#32))==true),((n==(0#32))==true),((n==(0#32))==true),(p !=(0#32))]:=by show _=_;kernel_rfl
def ado(a:BitVec 64)(c d p n sl k b:BitVec 32):nI 0 none [] (.aD (gC a ((sl*d).setWidth 64) ((0#32).setWidth 64) ((a>>>32).setWidth 32%p) c)) (bY cr aQ 46 (nN.args ⟨a,c,d,p,n,sl,k,b⟩) ⟨[],bJ,(bE 16 39),[]⟩) [((c.setWidth 64)!=(0#64)),((k==(((a>>>32).setWidth 32)%p))==false),((b==(0#32))==false),((b==(0#32))==false),((b==(0#32))==false),((b==(0#32))==false),((k==(((a>>>32).setWidth 32)%p))==false),((sl==(0#32))==false),((sl==(0#32))==false),((sl==(0#32))==false),((sl==(0#32))==false),((n==(0#32))==true),((k==(((a>>>32).setWidth 32)%p))==false),((4#32)!=(0#32)),((sl==(0#32))==false),((n==(0#32))==true),((n==(0#32))==true),((n==(0#32))==true),(p !=(0#32))]:=by show _=_;kernel_rfl
def adp(b:BitVec 64)(c d p n sl k a:BitVec 32):nI 0 none [] (.aD (gC b ((3#32*d+a-1#32).setWidth 64) ((((sl+1#32)%4#32)*d).setWidth 64) ((b>>>32).setWidth 32%p) c)) (bY cr aQ 46 (nN.args ⟨b,c,d,p,n,sl,k,a⟩) ⟨[],bJ,(bE 9 488),[]⟩) [((c.setWidth 64)!=(0#64)),((a==(0#32))==true),((a==(0#32))==true),((a==(0#32))==true),((a==(0#32))==true),((n==(0#32))==false),((k==(((b>>>32).setWidth 32)%p))==true),((4#32)!=(0#32)),((n==(0#32))==false),((n==(0#32))==false),((n==(0#32))==false),(p !=(0#32))]:=by show _=_;kernel_rfl
def adq(b:BitVec 64)(c d p n sl k a:BitVec 32):nI 0 none [] (.aD (gC b ((3#32*d+a-1#32).setWidth 64) ((((sl+1#32)%4#32)*d).setWidth 64) ((b>>>32).setWidth 32%p) c)) (bY cr aQ 46 (nN.args ⟨b,c,d,p,n,sl,k,a⟩) ⟨[],bJ,(bE 10 520),[]⟩) [((c.setWidth 64)!=(0#64)),((k==(((b>>>32).setWidth 32)%p))==true),((a==(0#32))==false),((a==(0#32))==false),((a==(0#32))==false),((a==(0#32))==false),((n==(0#32))==false),((k==(((b>>>32).setWidth 32)%p))==true),((4#32)!=(0#32)),((n==(0#32))==false),((n==(0#32))==false),((n==(0#32))==false),(p !=(0#32))]:=by show _=_;kernel_rfl
def adr(b:BitVec 64)(c d p n sl k a:BitVec 32):nI 0 none [] (.aD (gC b ((3#32*d-1#32).setWidth 64) ((((sl+1#32)%4#32)*d).setWidth 64) ((b>>>32).setWidth 32%p) c)) (bY cr aQ 46 (nN.args ⟨b,c,d,p,n,sl,k,a⟩) ⟨[],bJ,(bE 9 480),[]⟩) [((c.setWidth 64)!=(0#64)),((a==(0#32))==true),((a==(0#32))==true),((a==(0#32))==true),((a==(0#32))==true),((n==(0#32))==false),((k==(((b>>>32).setWidth 32)%p))==false),((4#32)!=(0#32)),((n==(0#32))==false),((n==(0#32))==false),((n==(0#32))==false),(p !=(0#32))]:=by show _=_;kernel_rfl
def ads(a:BitVec 64)(c d p n sl k b:BitVec 32):nI 0 none [] (.aD (gC a ((3#32*d).setWidth 64) ((((sl+1#32)%4#32)*d).setWidth 64) ((a>>>32).setWidth 32%p) c)) (bY cr aQ 46 (nN.args ⟨a,c,d,p,n,sl,k,b⟩) ⟨[],bJ,(bE 10 0),[]⟩) [((c.setWidth 64)!=(0#64)),((k==(((a>>>32).setWidth 32)%p))==false),((b==(0#32))==false),((b==(0#32))==false),((b==(0#32))==false),((b==(0#32))==false),((n==(0#32))==false),((k==(((a>>>32).setWidth 32)%p))==false),((4#32)!=(0#32)),((n==(0#32))==false),((n==(0#32))==false),((n==(0#32))==false),(p !=(0#32))]:=by show _=_;kernel_rfl
def adt:br 46 nN.spec:=by
 refine nN.ok (dm fL (cK _)) adj ?_;rintro⟨a,c,b,p,n,sl,k,d⟩ m;have m:=aZ m;obtain⟨j,o,q⟩:=m;have l:c.setWidth 64≠0#64:=fun h=>o (by
  apply nc;have:=iZ BitVec.toNat h;simpa[dM (show c.toNat<2^64 by have:=c.isLt;omega)]using this)
 show∃r s cs,qO 0 s [] (.num (.aD (cq a c b p n sl k d))) (bY cr aQ 46 (nN.args ⟨a,c,b,p,n,sl,k,d⟩) ⟨[],bJ,r,[]⟩)=some ([],.num (.aD (cq a c b p n sl k d)),cs)∧∀a∈cs,a=true;by_cases e:n=0#32
 ·by_cases i:sl=0#32
  ·have hi:=q e i;have f:cq a c b p n sl k d=gC a ((sl*b+d-1#32).setWidth 64) ((0#32).setWidth 64) k c:=by unfold cq gl eI;simp[e,i,hi]
   rw[f];refine⟨_,_,_,adk a c b p n sl k d,?_⟩
   repeat'(refine ax ?_ ?_)
   all_goals first|exact aV|rfl|(simp[j,l,e,i,hi];done)
  ·by_cases g:k=(a>>>32).setWidth 32%p
   ·by_cases hi:d=0#32
    ·have f:cq a c b p n sl k d=gC a ((sl*b+d-1#32).setWidth 64) ((0#32).setWidth 64) ((a>>>32).setWidth 32%p) c:=by unfold cq gl eI;simp[e,i,←g,hi]
     rw[f];refine⟨_,_,_,adl a c b p n sl k d,?_⟩
     repeat'(refine ax ?_ ?_)
     all_goals first|exact aV|rfl|(simp[j,l,e,i,←g,hi];done)
    ·have f:cq a c b p n sl k d=gC a ((sl*b+d-1#32).setWidth 64) ((0#32).setWidth 64) ((a>>>32).setWidth 32%p) c:=by unfold cq gl eI;simp[e,i,←g,hi]
     rw[f];refine⟨_,_,_,adm a c b p n sl k d,?_⟩
     repeat'(refine ax ?_ ?_)
     all_goals first|exact aV|rfl|(simp[j,l,e,i,←g,hi];done)
   ·by_cases hi:d=0#32
    ·have f:cq a c b p n sl k d=gC a ((sl*b-1#32).setWidth 64) ((0#32).setWidth 64) ((a>>>32).setWidth 32%p) c:=by unfold cq gl eI;simp[e,i,g,hi]
     rw[f];refine⟨_,_,_,adn a c b p n sl k d,?_⟩
     repeat'(refine ax ?_ ?_)
     all_goals first|exact aV|rfl|(simp[j,l,e,i,g,hi];done)
    ·have f:cq a c b p n sl k d=gC a ((sl*b).setWidth 64) ((0#32).setWidth 64) ((a>>>32).setWidth 32%p) c:=by unfold cq gl eI;simp[e,i,g,hi]
     rw[f];refine⟨_,_,_,ado a c b p n sl k d,?_⟩
     repeat'(refine ax ?_ ?_)
     all_goals first|exact aV|rfl|(simp[j,l,e,i,g,hi];done)
 ·by_cases g:k=(a>>>32).setWidth 32%p
  ·by_cases hi:d=0#32
   ·have f:cq a c b p n sl k d=gC a ((3#32*b+d-1#32).setWidth 64) ((((sl+1#32)%4#32)*b).setWidth 64) ((a>>>32).setWidth 32%p) c:=by unfold cq gl eI;simp[e,←g,hi]
    rw[f];refine⟨_,_,_,adp a c b p n sl k d,?_⟩
    repeat'(refine ax ?_ ?_)
    all_goals first|exact aV|rfl|(simp[j,l,e,←g,hi];done)
   ·have f:cq a c b p n sl k d=gC a ((3#32*b+d-1#32).setWidth 64) ((((sl+1#32)%4#32)*b).setWidth 64) ((a>>>32).setWidth 32%p) c:=by unfold cq gl eI;simp[e,←g,hi]
    rw[f];refine⟨_,_,_,adq a c b p n sl k d,?_⟩
    repeat'(refine ax ?_ ?_)
    all_goals first|exact aV|rfl|(simp[j,l,e,←g,hi];done)
  ·by_cases hi:d=0#32
   ·have f:cq a c b p n sl k d=gC a ((3#32*b-1#32).setWidth 64) ((((sl+1#32)%4#32)*b).setWidth 64) ((a>>>32).setWidth 32%p) c:=by unfold cq gl eI;simp[e,g,hi]
    rw[f];refine⟨_,_,_,adr a c b p n sl k d,?_⟩
    repeat'(refine ax ?_ ?_)
    all_goals first|exact aV|rfl|(simp[j,l,e,g,hi];done)
   ·have f:cq a c b p n sl k d=gC a ((3#32*b).setWidth 64) ((((sl+1#32)%4#32)*b).setWidth 64) ((a>>>32).setWidth 32%p) c:=by unfold cq gl eI;simp[e,g,hi]
    rw[f];refine⟨_,_,_,ads a c b p n sl k d,?_⟩
    repeat'(refine ax ?_ ?_)
    all_goals first|exact aV|rfl|(simp[j,l,e,g,hi];done)
def dg(a:U 64):U 64:=U.of ((List.range 128).map fun i=>a.l.getD i 0#64)
def dz(v:U 64):U 64:=U.of ((List.range 128).map fun i=>match Nat.beq i 6 with|true=>v.l.getD 6 0#64+1#64|false=>v.l.getD i 0#64)
def eJ(a:U 64→U 64→U 64)(b z:U 64):U 64:=a (dg (a (dg b) (dg z))) (dg z)
def aT(b:BitVec 32):Nat:=0+((b.toNat:Int)).toNat*128
def dF(m:Int)(n sl:BitVec 32):Prop:=m=1∨(m=2∧n=0#32∧BitVec.ult sl 2#32=true)
instance(m:Int)(n sl:BitVec 32):Decidable (dF m n sl):=inferInstanceAs (Decidable (_∨_))
def eA(b sl c a:BitVec 32):BitVec 32:=if c=0#32∧sl=0#32 then a-1#32+b else a-1#32
def l7(f:cw)(X:U 64)(a b c:BitVec 32):Bool:=decide (aT a+128≤X.n∧aT b+128≤X.n∧aT c+128≤X.n∧ek f (aT a) false=true∧ek f (aT a) true=true∧ek f (aT b) false=true∧ek f (aT c) false=true)
def cS(M:Nat)(b:BitVec 32):Bool:=decide ((0:Int)≤(b.toNat:Int))&&decide ((b.toNat:Int)<(M:Int))
def mV(p a n sl b:BitVec 32):Bool:=decide (p≠0#32∧a≠0#32∧(n=0#32→sl=0#32→b≠0#32))
def vV(a:BitVec 32):Bool:=decide (0+((((a%128#32).toNat:Nat):Int)).toNat*1<128)
def gD(ad:U 64)(a:BitVec 32):BitVec 64:=(dg ad).l.getD (0+((((a%128#32).toNat:Nat):Int)).toNat*1) 0#64
def fZ(X:U 64)(a:BitVec 32):BitVec 64:=X.l.getD (aT a+0) 0#64
def RJ(b:U 64→U 64→U 64):bT Gb:={vQ with out:=fun⟨_,x,a⟩=>[⟨.gen (dS (b x a) 128),.own⟩,⟨.gen (dS x 128),.own⟩,⟨.gen (dS a 128),.ro⟩]}
def RK(b:U 64→U 64→U 64):bT Gc:={vR with out:=fun⟨c,a⟩=>[⟨.gen (dS (b c a) 128),.own⟩,⟨.gen (dS a 128),.ro⟩]}
def adu:RJ bw=vQ:=rfl
def adv:RK bw=vR:=rfl
def RL(a:U 64→U 64→U 64):aA.Spec:=fK C7.spec (fK (RJ a).spec (RK a).spec)
def adw:br 58 (RL bw):=dy.or ac8 (dy.or (by rw[adu];exact acK) (by rw[adv];exact acN))
def fM(a:U 64→U 64→U 64):FuncId→Option aA.Spec|46=>some nN.spec|58=>some (RL a)|_=>none
def Gf:∀f a,fM bw f=some a→br f a:=by
 intro f a h;unfold fM at h;split at h
 ·cases h;exact adt
 ·cases h;exact adw
 ·cases h
structure l8 where
 (f:cw)(X ad ao1 z:U 64)(M:Nat)(m:Int)(mem tm ln az p n sl k ix off:BitVec 32)(kA:Value)
def eO(d:l8):aI×List ah:=
 match d with
 |⟨f,X,ad,a,z,M,m,mem,tm,b,c,p,n,sl,k,e,g,h⟩=>(⟨[.num (.aD n),.num (.aD sl),.num (.aD k),.atom (.exact h),.P 1,.P 2,.P 3,.P 4,.P 5,.P 6,.P 7,.aa,.aa,.aa,.aa,.P 8,.P 9,.P 10,.num (.aD e),.num (.aD g),.aa,.aa,.aa],[]⟩,[⟨.lim f X,.own⟩,⟨.gen [.aq m],.ro⟩,⟨.gen [.num (.aD mem)],.ro⟩,⟨.gen [.num (.aD tm)],.ro⟩,⟨.gen [.num (.aD b)],.ro⟩,⟨.gen [.num (.aD c)],.ro⟩,⟨.gen [.ref (.sm 0 (.s M) 128)],.ro⟩,⟨.gen [.num (.aD p)],.ro⟩,⟨.gen (dS ad 128),.own⟩,⟨.gen (dS a 128),.own⟩,⟨.gen (dS z 128),.ro⟩])
def dG(g:U 64→U 64→U 64)(d:l8):l8:=
 match d with
 |⟨f,X,ad,b,z,M,m,mem,tm,c,h,p,n,sl,k,a,e,i⟩=>⟨f,fl f X (aT e) (aT (eA c sl a e)) (aT (cq (if dF m n sl then gD (if a=0#32 then eJ g (dz b) z else ad) a else fZ X (eA c sl a e)) c h p n sl k a)),(if dF m n sl∧a=0#32 then eJ g (dz b) z else ad),(if dF m n sl∧a=0#32 then dz b else b),z,M,m,mem,tm,c,h,p,n,sl,k,a+1#32,e+1#32,i⟩
def adx(g:U 64→U 64→U 64)(f:cw)(X ad d z:U 64)(M:Nat)(m:Int)(mem tm b e p n sl k a c:BitVec 32)(h:Value):jf eO 11 ⟨f,X,ad,d,z,M,m,mem,tm,b,e,p,n,sl,k,a,c,h⟩ (b6 11) (eO ⟨f,fl f X (aT c) (aT (c-1#32+b)) (aT (cq (gD (eJ g (dz d) z) a) b e p n sl k a)),eJ g (dz d) z,dz d,z,M,m,mem,tm,b,e,p,n,sl,k,a+1#32,c+1#32,h⟩) (bZ (fM g) aQ 44 0) (bE 13 8191) .normal [l7 f X c (c-1#32+b) (cq (gD (eJ g (dz d) z) a) b e p n sl k a),cS M (cq (gD (eJ g (dz d) z) a) b e p n sl k a),cS M (c-1#32+b),cS M c,mV p b n sl a,vV a,cS 128 (a%128#32),(128#32 !=0#32),decide True,decide True,((a%128#32==0#32)==true),(128#32 !=0#32),((m==1)==true),((m==1)==true),((m==1)==true),((m==1)==true),((m==1)==true),((m==1)==true),((m==1)==true),((sl==0#32)==true),((a==0#32)==true),((a==0#32)==true),((a==0#32)==true),(decide (a.toNat<e.toNat)==true)]:=by show _=_;kernel_rfl
def ady(g:U 64→U 64→U 64)(f:cw)(X ad c z:U 64)(M:Nat)(m:Int)(mem tm d e p n sl k a b:BitVec 32)(h:Value):jf eO 11 ⟨f,X,ad,c,z,M,m,mem,tm,d,e,p,n,sl,k,a,b,h⟩ (b6 11) (eO ⟨f,fl f X (aT b) (aT (b-1#32)) (aT (cq (gD (eJ g (dz c) z) a) d e p n sl k a)),eJ g (dz c) z,dz c,z,M,m,mem,tm,d,e,p,n,sl,k,a+1#32,b+1#32,h⟩) (bZ (fM g) aQ 44 0) (bE 13 8175) .normal [l7 f X b (b-1#32) (cq (gD (eJ g (dz c) z) a) d e p n sl k a),cS M (cq (gD (eJ g (dz c) z) a) d e p n sl k a),cS M (b-1#32),cS M b,mV p d n sl a,vV a,cS 128 (a%128#32),(128#32 !=0#32),decide True,decide True,((a%128#32==0#32)==true),(128#32 !=0#32),((m==1)==true),((m==1)==true),((m==1)==true),((m==1)==true),((m==1)==true),((m==1)==true),((m==1)==true),((sl==0#32)==false),((a==0#32)==true),((a==0#32)==true),((a==0#32)==true),(decide (a.toNat<e.toNat)==true)]:=by show _=_;kernel_rfl
def adz(h:U 64→U 64→U 64)(f:cw)(X ad e z:U 64)(M:Nat)(m:Int)(mem tm c d p n sl k a b:BitVec 32)(g:Value):jf eO 11 ⟨f,X,ad,e,z,M,m,mem,tm,c,d,p,n,sl,k,a,b,g⟩ (b6 11) (eO ⟨f,fl f X (aT b) (aT (b-1#32)) (aT (cq (gD ad a) c d p n sl k a)),ad,e,z,M,m,mem,tm,c,d,p,n,sl,k,a+1#32,b+1#32,g⟩) (bZ (fM h) aQ 44 0) (bE 12 2033) .normal [l7 f X b (b-1#32) (cq (gD ad a) c d p n sl k a),cS M (cq (gD ad a) c d p n sl k a),cS M (b-1#32),cS M b,mV p c n sl a,vV a,cS 128 (a%128#32),(128#32 !=0#32),((a%128#32==0#32)==false),(128#32 !=0#32),((m==1)==true),((m==1)==true),((m==1)==true),((m==1)==true),((m==1)==true),((m==1)==true),((m==1)==true),((a==0#32)==false),((a==0#32)==false),((a==0#32)==false),(decide (a.toNat<d.toNat)==true)]:=by show _=_;kernel_rfl
def adA(g:U 64→U 64→U 64)(f:cw)(X ad d z:U 64)(M:Nat)(m:Int)(mem tm b e p n sl k a c:BitVec 32)(h:Value):jf eO 11 ⟨f,X,ad,d,z,M,m,mem,tm,b,e,p,n,sl,k,a,c,h⟩ (b6 11) (eO ⟨f,fl f X (aT c) (aT (c-1#32+b)) (aT (cq (gD (eJ g (dz d) z) a) b e p n sl k a)),eJ g (dz d) z,dz d,z,M,m,mem,tm,b,e,p,n,sl,k,a+1#32,c+1#32,h⟩) (bZ (fM g) aQ 44 0) (bE 20 879391) .normal [l7 f X c (c-1#32+b) (cq (gD (eJ g (dz d) z) a) b e p n sl k a),cS M (cq (gD (eJ g (dz d) z) a) b e p n sl k a),cS M (c-1#32+b),cS M c,mV p b n sl a,vV a,cS 128 (a%128#32),(128#32 !=0#32),decide True,decide True,((a%128#32==0#32)==true),(128#32 !=0#32),(decide (sl.toNat<(2#32).toNat)==true),((m==1)==false),((n==0#32)==true),((m==1)==false),((n==0#32)==true),((n==0#32)==true),((m==1)==false),((m==2)==true),((m==1)==false),((m==2)==true),((m==2)==true),((m==1)==false),((m==1)==false),((m==1)==false),((sl==0#32)==true),((a==0#32)==true),((a==0#32)==true),((a==0#32)==true),(decide (a.toNat<e.toNat)==true)]:=by show _=_;kernel_rfl
def adB(g:U 64→U 64→U 64)(f:cw)(X ad c z:U 64)(M:Nat)(m:Int)(mem tm d e p n sl k a b:BitVec 32)(h:Value):jf eO 11 ⟨f,X,ad,c,z,M,m,mem,tm,d,e,p,n,sl,k,a,b,h⟩ (b6 11) (eO ⟨f,fl f X (aT b) (aT (b-1#32)) (aT (cq (gD (eJ g (dz c) z) a) d e p n sl k a)),eJ g (dz c) z,dz c,z,M,m,mem,tm,d,e,p,n,sl,k,a+1#32,b+1#32,h⟩) (bZ (fM g) aQ 44 0) (bE 20 879375) .normal [l7 f X b (b-1#32) (cq (gD (eJ g (dz c) z) a) d e p n sl k a),cS M (cq (gD (eJ g (dz c) z) a) d e p n sl k a),cS M (b-1#32),cS M b,mV p d n sl a,vV a,cS 128 (a%128#32),(128#32 !=0#32),decide True,decide True,((a%128#32==0#32)==true),(128#32 !=0#32),(decide (sl.toNat<(2#32).toNat)==true),((m==1)==false),((n==0#32)==true),((m==1)==false),((n==0#32)==true),((n==0#32)==true),((m==1)==false),((m==2)==true),((m==1)==false),((m==2)==true),((m==2)==true),((m==1)==false),((m==1)==false),((m==1)==false),((sl==0#32)==false),((a==0#32)==true),((a==0#32)==true),((a==0#32)==true),(decide (a.toNat<e.toNat)==true)]:=by show _=_;kernel_rfl
def adC(h:U 64→U 64→U 64)(f:cw)(X ad e z:U 64)(M:Nat)(m:Int)(mem tm c d p n sl k a b:BitVec 32)(g:Value):jf eO 11 ⟨f,X,ad,e,z,M,m,mem,tm,c,d,p,n,sl,k,a,b,g⟩ (b6 11) (eO ⟨f,fl f X (aT b) (aT (b-1#32)) (aT (cq (gD ad a) c d p n sl k a)),ad,e,z,M,m,mem,tm,c,d,p,n,sl,k,a+1#32,b+1#32,g⟩) (bZ (fM h) aQ 44 0) (bE 19 177537) .normal [l7 f X b (b-1#32) (cq (gD ad a) c d p n sl k a),cS M (cq (gD ad a) c d p n sl k a),cS M (b-1#32),cS M b,mV p c n sl a,vV a,cS 128 (a%128#32),(128#32 !=0#32),((a%128#32==0#32)==false),(128#32 !=0#32),(decide (sl.toNat<(2#32).toNat)==true),((m==1)==false),((n==0#32)==true),((m==1)==false),((n==0#32)==true),((n==0#32)==true),((m==1)==false),((m==2)==true),((m==1)==false),((m==2)==true),((m==2)==true),((m==1)==false),((m==1)==false),((m==1)==false),((a==0#32)==false),((a==0#32)==false),((a==0#32)==false),(decide (a.toNat<d.toNat)==true)]:=by show _=_;kernel_rfl
def adD(h:U 64→U 64→U 64)(f:cw)(X ad e z:U 64)(M:Nat)(m:Int)(mem tm a d p n sl k c b:BitVec 32)(g:Value):jf eO 11 ⟨f,X,ad,e,z,M,m,mem,tm,a,d,p,n,sl,k,c,b,g⟩ (b6 11) (eO ⟨f,fl f X (aT b) (aT (b-1#32+a)) (aT (cq (fZ X (b-1#32+a)) a d p n sl k c)),ad,e,z,M,m,mem,tm,a,d,p,n,sl,k,c+1#32,b+1#32,g⟩) (bZ (fM h) aQ 44 0) (bE 15 31) .normal [l7 f X b (b-1#32+a) (cq (fZ X (b-1#32+a)) a d p n sl k c),cS M (cq (fZ X (b-1#32+a)) a d p n sl k c),cS M (b-1#32+a),cS M b,mV p a n sl c,f (aT (b-1#32+a)+0) false,decide (aT (b-1#32+a)+0<X.n),cS M (b-1#32+a),((m==1)==false),((m==1)==false),((m==1)==false),((m==2)==false),((m==1)==false),((m==2)==false),((m==2)==false),((m==1)==false),((m==1)==false),((m==1)==false),((sl==0#32)==true),((c==0#32)==true),((c==0#32)==true),((c==0#32)==true),(decide (c.toNat<d.toNat)==true)]:=by show _=_;kernel_rfl
def adE(h:U 64→U 64→U 64)(f:cw)(X ad e z:U 64)(M:Nat)(m:Int)(mem tm c d p n sl k b a:BitVec 32)(g:Value):jf eO 11 ⟨f,X,ad,e,z,M,m,mem,tm,c,d,p,n,sl,k,b,a,g⟩ (b6 11) (eO ⟨f,fl f X (aT a) (aT (a-1#32)) (aT (cq (fZ X (a-1#32)) c d p n sl k b)),ad,e,z,M,m,mem,tm,c,d,p,n,sl,k,b+1#32,a+1#32,g⟩) (bZ (fM h) aQ 44 0) (bE 15 15) .normal [l7 f X a (a-1#32) (cq (fZ X (a-1#32)) c d p n sl k b),cS M (cq (fZ X (a-1#32)) c d p n sl k b),cS M (a-1#32),cS M a,mV p c n sl b,f (aT (a-1#32)+0) false,decide (aT (a-1#32)+0<X.n),cS M (a-1#32),((m==1)==false),((m==1)==false),((m==1)==false),((m==2)==false),((m==1)==false),((m==2)==false),((m==2)==false),((m==1)==false),((m==1)==false),((m==1)==false),((sl==0#32)==false),((b==0#32)==true),((b==0#32)==true),((b==0#32)==true),(decide (b.toNat<d.toNat)==true)]:=by show _=_;kernel_rfl
def adF(h:U 64→U 64→U 64)(f:cw)(X ad e z:U 64)(M:Nat)(m:Int)(mem tm c d p n sl k b a:BitVec 32)(g:Value):jf eO 11 ⟨f,X,ad,e,z,M,m,mem,tm,c,d,p,n,sl,k,b,a,g⟩ (b6 11) (eO ⟨f,fl f X (aT a) (aT (a-1#32)) (aT (cq (fZ X (a-1#32)) c d p n sl k b)),ad,e,z,M,m,mem,tm,c,d,p,n,sl,k,b+1#32,a+1#32,g⟩) (bZ (fM h) aQ 44 0) (bE 14 1) .normal [l7 f X a (a-1#32) (cq (fZ X (a-1#32)) c d p n sl k b),cS M (cq (fZ X (a-1#32)) c d p n sl k b),cS M (a-1#32),cS M a,mV p c n sl b,f (aT (a-1#32)+0) false,decide (aT (a-1#32)+0<X.n),cS M (a-1#32),((m==1)==false),((m==1)==false),((m==1)==false),((m==2)==false),((m==1)==false),((m==2)==false),((m==2)==false),((m==1)==false),((m==1)==false),((m==1)==false),((b==0#32)==false),((b==0#32)==false),((b==0#32)==false),(decide (b.toNat<d.toNat)==true)]:=by show _=_;kernel_rfl
def adG(h:U 64→U 64→U 64)(f:cw)(X ad e z:U 64)(M:Nat)(m:Int)(mem tm a d p n sl k c b:BitVec 32)(g:Value):jf eO 11 ⟨f,X,ad,e,z,M,m,mem,tm,a,d,p,n,sl,k,c,b,g⟩ (b6 11) (eO ⟨f,fl f X (aT b) (aT (b-1#32+a)) (aT (cq (fZ X (b-1#32+a)) a d p n sl k c)),ad,e,z,M,m,mem,tm,a,d,p,n,sl,k,c+1#32,b+1#32,g⟩) (bZ (fM h) aQ 44 0) (bE 18 2847) .normal [l7 f X b (b-1#32+a) (cq (fZ X (b-1#32+a)) a d p n sl k c),cS M (cq (fZ X (b-1#32+a)) a d p n sl k c),cS M (b-1#32+a),cS M b,mV p a n sl c,f (aT (b-1#32+a)+0) false,decide (aT (b-1#32+a)+0<X.n),cS M (b-1#32+a),((m==1)==false),((n==0#32)==false),((m==1)==false),((n==0#32)==false),((n==0#32)==false),((m==1)==false),((m==2)==true),((m==1)==false),((m==2)==true),((m==2)==true),((m==1)==false),((m==1)==false),((m==1)==false),((sl==0#32)==true),((c==0#32)==true),((c==0#32)==true),((c==0#32)==true),(decide (c.toNat<d.toNat)==true)]:=by show _=_;kernel_rfl
def adH(h:U 64→U 64→U 64)(f:cw)(X ad e z:U 64)(M:Nat)(m:Int)(mem tm c d p n sl k b a:BitVec 32)(g:Value):jf eO 11 ⟨f,X,ad,e,z,M,m,mem,tm,c,d,p,n,sl,k,b,a,g⟩ (b6 11) (eO ⟨f,fl f X (aT a) (aT (a-1#32)) (aT (cq (fZ X (a-1#32)) c d p n sl k b)),ad,e,z,M,m,mem,tm,c,d,p,n,sl,k,b+1#32,a+1#32,g⟩) (bZ (fM h) aQ 44 0) (bE 18 2831) .normal [l7 f X a (a-1#32) (cq (fZ X (a-1#32)) c d p n sl k b),cS M (cq (fZ X (a-1#32)) c d p n sl k b),cS M (a-1#32),cS M a,mV p c n sl b,f (aT (a-1#32)+0) false,decide (aT (a-1#32)+0<X.n),cS M (a-1#32),((m==1)==false),((n==0#32)==false),((m==1)==false),((n==0#32)==false),((n==0#32)==false),((m==1)==false),((m==2)==true),((m==1)==false),((m==2)==true),((m==2)==true),((m==1)==false),((m==1)==false),((m==1)==false),((sl==0#32)==false),((b==0#32)==true),((b==0#32)==true),((b==0#32)==true),(decide (b.toNat<d.toNat)==true)]:=by show _=_;kernel_rfl
def adI(h:U 64→U 64→U 64)(f:cw)(X ad e z:U 64)(M:Nat)(m:Int)(mem tm c d p n sl k b a:BitVec 32)(g:Value):jf eO 11 ⟨f,X,ad,e,z,M,m,mem,tm,c,d,p,n,sl,k,b,a,g⟩ (b6 11) (eO ⟨f,fl f X (aT a) (aT (a-1#32)) (aT (cq (fZ X (a-1#32)) c d p n sl k b)),ad,e,z,M,m,mem,tm,c,d,p,n,sl,k,b+1#32,a+1#32,g⟩) (bZ (fM h) aQ 44 0) (bE 17 1409) .normal [l7 f X a (a-1#32) (cq (fZ X (a-1#32)) c d p n sl k b),cS M (cq (fZ X (a-1#32)) c d p n sl k b),cS M (a-1#32),cS M a,mV p c n sl b,f (aT (a-1#32)+0) false,decide (aT (a-1#32)+0<X.n),cS M (a-1#32),((m==1)==false),((n==0#32)==false),((m==1)==false),((n==0#32)==false),((n==0#32)==false),((m==1)==false),((m==2)==true),((m==1)==false),((m==2)==true),((m==2)==true),((m==1)==false),((m==1)==false),((m==1)==false),((b==0#32)==false),((b==0#32)==false),((b==0#32)==false),(decide (b.toNat<d.toNat)==true)]:=by show _=_;kernel_rfl
def adJ(h:U 64→U 64→U 64)(f:cw)(X ad e z:U 64)(M:Nat)(m:Int)(mem tm c d p n sl k b a:BitVec 32)(g:Value):jf eO 11 ⟨f,X,ad,e,z,M,m,mem,tm,c,d,p,n,sl,k,b,a,g⟩ (b6 11) (eO ⟨f,fl f X (aT a) (aT (a-1#32)) (aT (cq (fZ X (a-1#32)) c d p n sl k b)),ad,e,z,M,m,mem,tm,c,d,p,n,sl,k,b+1#32,a+1#32,g⟩) (bZ (fM h) aQ 44 0) (bE 19 92943) .normal [l7 f X a (a-1#32) (cq (fZ X (a-1#32)) c d p n sl k b),cS M (cq (fZ X (a-1#32)) c d p n sl k b),cS M (a-1#32),cS M a,mV p c n sl b,f (aT (a-1#32)+0) false,decide (aT (a-1#32)+0<X.n),cS M (a-1#32),(decide (sl.toNat<(2#32).toNat)==false),((m==1)==false),((n==0#32)==true),((m==1)==false),((n==0#32)==true),((n==0#32)==true),((m==1)==false),((m==2)==true),((m==1)==false),((m==2)==true),((m==2)==true),((m==1)==false),((m==1)==false),((m==1)==false),((sl==0#32)==false),((b==0#32)==true),((b==0#32)==true),((b==0#32)==true),(decide (b.toNat<d.toNat)==true)]:=by show _=_;kernel_rfl
def adK(h:U 64→U 64→U 64)(f:cw)(X ad e z:U 64)(M:Nat)(m:Int)(mem tm c d p n sl k b a:BitVec 32)(g:Value):jf eO 11 ⟨f,X,ad,e,z,M,m,mem,tm,c,d,p,n,sl,k,b,a,g⟩ (b6 11) (eO ⟨f,fl f X (aT a) (aT (a-1#32)) (aT (cq (fZ X (a-1#32)) c d p n sl k b)),ad,e,z,M,m,mem,tm,c,d,p,n,sl,k,b+1#32,a+1#32,g⟩) (bZ (fM h) aQ 44 0) (bE 18 46465) .normal [l7 f X a (a-1#32) (cq (fZ X (a-1#32)) c d p n sl k b),cS M (cq (fZ X (a-1#32)) c d p n sl k b),cS M (a-1#32),cS M a,mV p c n sl b,f (aT (a-1#32)+0) false,decide (aT (a-1#32)+0<X.n),cS M (a-1#32),(decide (sl.toNat<(2#32).toNat)==false),((m==1)==false),((n==0#32)==true),((m==1)==false),((n==0#32)==true),((n==0#32)==true),((m==1)==false),((m==2)==true),((m==1)==false),((m==2)==true),((m==2)==true),((m==1)==false),((m==1)==false),((m==1)==false),((b==0#32)==false),((b==0#32)==false),((b==0#32)==false),(decide (b.toNat<d.toNat)==true)]:=by show _=_;kernel_rfl
def adL(h:U 64→U 64→U 64)(f:cw)(X ad c z:U 64)(M:Nat)(m:Int)(mem tm d a p n sl k b e:BitVec 32)(g:Value):jf eO 11 ⟨f,X,ad,c,z,M,m,mem,tm,d,a,p,n,sl,k,b,e,g⟩ none (eO ⟨f,X,ad,c,z,M,m,mem,tm,d,a,p,n,sl,k,b,e,g⟩) (bZ (fM h) aQ 44 0) [false] (.exit 0) [(decide (b.toNat<a.toNat)==false)]:=by show _=_;kernel_rfl
def vW(X a b:U 64)(i:Int):U 64:=b.set (0+i.toNat*1) (X.l.getD (0+i.toNat*1) 0#64^^^a.l.getD (0+i.toNat*1) 0#64)
def RM(X b a:U 64)(i:Int):(vW X b a i).n=a.n:=rfl
structure yc where
 (X Y W R:U 64)(i:Int)
def adM(d:yc):aI×List ah:=
 match d with
 |⟨X,a,b,c,i⟩=>(⟨[.aa,.aa,.P 0,.P 1,.P 2,.P 3,.aa,.aa,.aa,.aa,.aa,.aa,.aa,.aa],[⟨14,.aq i⟩]⟩,[⟨.bt X,.own⟩,⟨.bt a,.own⟩,⟨.bt b,.own⟩,⟨.bt c,.own⟩])
def yd(d:yc):yc:=
 match d with
 |⟨X,a,b,c,i⟩=>⟨X,a,b,vW X a c i,i+1⟩
def Kx(a:aI)(b:List ah):Option yc:=
 match a with
 |⟨[.atom .aa,.atom .aa,.ref (.ptr 0 (.c 0)),.ref (.ptr 1 (.c 0)),.ref (.ptr 2 (.c 0)),.ref (.ptr 3 (.c 0)),.atom .aa,.atom .aa,.atom .aa,.atom .aa,.atom .aa,.atom .aa,.atom .aa,.atom .aa],[⟨14,.num (.int .i64 (.s i))⟩]⟩=>
  match b with
  |[⟨.bt X,.own⟩,⟨.bt d,.own⟩,⟨.bt e,.own⟩,⟨.bt f,.own⟩]=>some ⟨X,d,e,f,i⟩|_=>none
 |_=>none
def nO:eN yc where
 d0:=⟨0,0,0,0,0⟩
 read:=Kx
 ay:=adM
 next:=yd
 rem:=fun⟨_,_,_,_,i⟩=>(128-i).toNat
 aS:=fun⟨X,a,_,b,i⟩=>decide (0≤i∧i≤128∧X.n=128∧a.n=128∧b.n=128)
 out:=.exit 0
def adN(X a c b:U 64)(i:Int):nO.cB ⟨X,a,c,b,i⟩ (b6 4) (nO.ay (yd ⟨X,a,c,b,i⟩)) (bZ cr aQ 29 0) [true] .normal [bV (i+1),decide ((0+(i.toNat*1))<b.n),(decide (0≤i)&&decide (i<(128:Int))),decide ((0+(i.toNat*1))<a.n),(decide (0≤i)&&decide (i<(128:Int))),decide ((0+(i.toNat*1))<X.n),(decide (0≤i)&&decide (i<(128:Int))),(decide (i<128)==true)]:=by show _=_;kernel_rfl
def adO(X a b c:U 64)(i:Int):nO.cB ⟨X,a,b,c,i⟩ none (nO.fin ⟨X,a,b,c,i⟩) (bZ cr aQ 29 0) [false] nO.out [(decide (i<128)==false)]:=by show _=_;kernel_rfl
def adP:nO.Rd:=by
 intro a b d h;change Kx a b=some d at h;unfold Kx at h;repeat' split at h
 all_goals cases h
 rfl
def adQ:dc Tryz.prog bB (aj 29) (bN Tryz.prog 29) (bg Tryz.prog 29 0) (bZ cr aQ 29 0):=iw fL (cK _) 29 0 J4 (by rw[show(cH Tryz.prog 29).length=6 by kernel_rfl];omega)
def adR:eH Tryz.prog bB (aj 29) (bN Tryz.prog 29) (bg Tryz.prog 29 0) nO.T.told:=by
 refine nO.j0 adQ (by intro k f;have f:k∈([]:List ah):=f;cases f) (by intro h;cases h) adP ?_ ?_
 ·rintro⟨X,a,c,b,i⟩ j d e;have d:=aZ d;have e:(128-i).toNat=j+1:=e;have l:nO.next ⟨X,a,c,b,i⟩=yd ⟨X,a,c,b,i⟩:=rfl;rw[l];refine⟨⟨[true],(b6 4),_,adN X a c b i,?_⟩,?_,?_,(show(nO.ay (yd ⟨X,a,c,b,i⟩)).2.length=4 by kernel_rfl).trans (show(nO.ay ⟨X,a,c,b,i⟩).2.length=4 by kernel_rfl).symm⟩
  ·repeat'(refine ax ?_ ?_)
   all_goals first|exact aV|rfl|(simp only[cz]<;>omega)
  ·have g:nO.aS (yd ⟨X,a,c,b,i⟩)=decide (0≤(i+1:Int)∧(i+1:Int)≤128∧X.n=128∧a.n=128∧(vW X a b i:U 64).n=128):=by kernel_rfl
   refine g.trans (bl ?_);have m:=RM X a b i;obtain⟨o,h1,h2,h3,h4⟩:=d;exact⟨by omega,by omega,h2,h3,m.trans h4⟩
  ·have g:nO.rem (yd ⟨X,a,c,b,i⟩)=((128-(i+1:Int)).toNat):=by kernel_rfl
   refine g.trans ?_;omega
 ·rintro⟨X,a,c,b,i⟩ d e;have d:=aZ d;have e:(128-i).toNat=0:=e;refine⟨[false],none,_,adO X a c b i,?_⟩
  repeat'(refine ax ?_ ?_)
  all_goals first|exact aV|rfl|(simp only[cz]<;>omega)
def Ky:cP:=nO.T.told
def adS:Told 29 0 Ky:=adR.run
structure ye where
 (W R Z:U 64)(i:Int)
def adT(d:ye):aI×List ah:=
 match d with
 |⟨a,b,Z,i⟩=>(⟨[.aa,.aa,.aa,.aa,.P 2,.P 3,.aa,.P 4,.aa,.aa,.aa,.aa,.aa,.aa],[⟨65,.aq i⟩]⟩,[cp,cp,⟨.bt a,.own⟩,⟨.bt b,.own⟩,⟨.bt Z,.own⟩,cp])
def nP(d:ye):ye:=
 match d with
 |⟨b,a,Z,i⟩=>⟨b,a,vW Z a Z i,i+1⟩
def Kz(a:aI)(b:List ah):Option ye:=
 match a with
 |⟨[.atom .aa,.atom .aa,.atom .aa,.atom .aa,.ref (.ptr 2 (.c 0)),.ref (.ptr 3 (.c 0)),.atom .aa,.ref (.ptr 4 (.c 0)),.atom .aa,.atom .aa,.atom .aa,.atom .aa,.atom .aa,.atom .aa],[⟨65,.num (.int .i64 (.s i))⟩]⟩=>
  match b with
  |[⟨.gen [],.bn⟩,⟨.gen [],.bn⟩,⟨.bt d,.own⟩,⟨.bt e,.own⟩,⟨.bt Z,.own⟩,⟨.gen [],.bn⟩]=>some ⟨d,e,Z,i⟩|_=>none
 |_=>none
def l9:eN ye where
 d0:=⟨0,0,0,0⟩
 read:=Kz
 ay:=adT
 next:=nP
 rem:=fun⟨_,_,_,i⟩=>(128-i).toNat
 aS:=fun⟨_,a,Z,i⟩=>decide (0≤i∧i≤128∧a.n=128∧Z.n=128)
 out:=.exit 10
def adU(b a Z:U 64)(i:Int):l9.cB ⟨b,a,Z,i⟩ (b6 6) (l9.ay (nP ⟨b,a,Z,i⟩)) (bZ cr aQ 29 5) [true] .normal [bV (i+1),decide ((0+(i.toNat*1))<Z.n),(decide (0≤i)&&decide (i<(128:Int))),decide ((0+(i.toNat*1))<a.n),(decide (0≤i)&&decide (i<(128:Int))),decide ((0+(i.toNat*1))<Z.n),(decide (0≤i)&&decide (i<(128:Int))),(decide (i<128)==true)]:=by show _=_;kernel_rfl
def adV(a b Z:U 64)(i:Int):l9.cB ⟨a,b,Z,i⟩ none (l9.fin ⟨a,b,Z,i⟩) (bZ cr aQ 29 5) [false] l9.out [(decide (i<128)==false)]:=by show _=_;kernel_rfl
def adW:l9.Rd:=by
 intro a b d h;change Kz a b=some d at h;unfold Kz at h;repeat' split at h
 all_goals cases h
 rfl
def adX:dc Tryz.prog bB (aj 29) (bN Tryz.prog 29) (bg Tryz.prog 29 5) (bZ cr aQ 29 5):=iw fL (cK _) 29 5 J4 (by rw[show(cH Tryz.prog 29).length=6 by kernel_rfl];omega)
def adY:eH Tryz.prog bB (aj 29) (bN Tryz.prog 29) (bg Tryz.prog 29 5) l9.T.told:=by
 refine l9.j0 adX (by intro k e;have e:k∈([]:List ah):=e;cases e) (by intro h;cases h) adW ?_ ?_
 ·rintro⟨b,a,Z,i⟩ g c d;have c:=aZ c;have d:(128-i).toNat=g+1:=d;have j:l9.next ⟨b,a,Z,i⟩=nP ⟨b,a,Z,i⟩:=rfl;rw[j];refine⟨⟨[true],(b6 6),_,adU b a Z i,?_⟩,?_,?_,(show(l9.ay (nP ⟨b,a,Z,i⟩)).2.length=6 by kernel_rfl).trans (show(l9.ay ⟨b,a,Z,i⟩).2.length=6 by kernel_rfl).symm⟩
  ·repeat'(refine ax ?_ ?_)
   all_goals first|exact aV|rfl|(simp only[cz]<;>omega)
  ·have f:l9.aS (nP ⟨b,a,Z,i⟩)=decide (0≤(i+1:Int)∧(i+1:Int)≤128∧a.n=128∧(vW Z a Z i:U 64).n=128):=by kernel_rfl
   refine f.trans (bl ?_);have l:=RM Z a Z i;obtain⟨m,h1,h2,h3⟩:=c;exact⟨by omega,by omega,h2,l.trans h3⟩
  ·have f:l9.rem (nP ⟨b,a,Z,i⟩)=((128-(i+1:Int)).toNat):=by kernel_rfl
   refine f.trans ?_;omega
 ·rintro⟨b,a,Z,i⟩ c d;have c:=aZ c;have d:(128-i).toNat=0:=d;refine⟨[false],none,_,adV b a Z i,?_⟩
  repeat'(refine ax ?_ ?_)
  all_goals first|exact aV|rfl|(simp only[cz]<;>omega)
def KA:cP:=l9.T.told
def adZ:Told 29 5 KA:=adY.run
def nQ:FuncId→Nat→Option cP|29,3=>some Ky|29,28=>some KA|_,_=>none
def ad0:(cH Tryz.prog 29).length=6:=by kernel_rfl
def ad1(spec:FuncId→Option aA.Spec):c6 (de spec nQ) bB:=by
 refine c6.of fun f=>?_;by_cases d:f=29
 ·subst d;refine .inr ⟨by kernel_rfl,fun i hi c a=>?_⟩;have hi:i<(cH Tryz.prog 29).length:=hi;rw[ad0]at hi;have e:i=0∨i=1∨i=2∨i=3∨i=4∨i=5:=by omega
  rcases e with rfl|rfl|rfl|rfl|rfl|rfl
  ·have b:(bX (bg Tryz.prog 29 0)).bind (nQ 29)=some Ky:=by kernel_rfl
   obtain rfl:=dV (b.symm.trans a);exact adS
  ·have b:(bX (bg Tryz.prog 29 1)).bind (nQ 29)=none:=by kernel_rfl
   have a:(bX (bg Tryz.prog 29 1)).bind (nQ 29)=some c:=a;rw[b]at a;cases a
  ·have b:(bX (bg Tryz.prog 29 2)).bind (nQ 29)=none:=by kernel_rfl
   have a:(bX (bg Tryz.prog 29 2)).bind (nQ 29)=some c:=a;rw[b]at a;cases a
  ·have b:(bX (bg Tryz.prog 29 3)).bind (nQ 29)=none:=by kernel_rfl
   have a:(bX (bg Tryz.prog 29 3)).bind (nQ 29)=some c:=a;rw[b]at a;cases a
  ·have b:(bX (bg Tryz.prog 29 4)).bind (nQ 29)=none:=by kernel_rfl
   have a:(bX (bg Tryz.prog 29 4)).bind (nQ 29)=some c:=a;rw[b]at a;cases a
  ·have b:(bX (bg Tryz.prog 29 5)).bind (nQ 29)=some KA:=by kernel_rfl
   obtain rfl:=dV (b.symm.trans a);exact adZ
 ·refine .inl fun r=>?_
  show nQ f r=none;unfold nQ;split
  ·exact absurd rfl d
  ·exact absurd rfl d
  ·rfl
abbrev o5:=U 64→Int→Int→Int→Int→Int→Int→Int→Int→Int→Int→Int→Int→Int→Int→Int→Int→U 64
def gM:o5:=fun X a b c d e f g h i j k l m n o p=>Ks kz X a b c d e f g h i j k l m n o p
def RN(a:o5):bT Ku:={tQ with out:=fun⟨X,i0,i1,i2,i3,i4,i5,i6,i7,i8,i9,i10,i11,i12,i13,i14,b⟩=>[⟨.bt (a X i0 i1 i2 i3 i4 i5 i6 i7 i8 i9 i10 i11 i12 i13 i14 b),.own⟩]}
def ad2:RN gM=tQ:=rfl
def KB(a:o5):FuncId→Option aA.Spec|39=>some (RN a).spec|_=>none
def ad3:∀f a,KB gM f=some a→br f a:=by
 intro f a h;unfold KB at h;split at h
 ·cases h;rw[ad2];exact adi
 ·cases h
def nR(a:o5)(k:Int)(Z:U 64):U 64:=a Z (16*k+0) (16*k+1) (16*k+2) (16*k+3) (16*k+4) (16*k+5) (16*k+6) (16*k+7) (16*k+8) (16*k+9) (16*k+10) (16*k+11) (16*k+12) (16*k+13) (16*k+14) (16*k+15)
def o6(a:o5)(k:Int)(Z:U 64):U 64:=a Z (0+2*k+0) (0+2*k+1) (16+2*k+0) (16+2*k+1) (32+2*k+0) (32+2*k+1) (48+2*k+0) (48+2*k+1) (64+2*k+0) (64+2*k+1) (80+2*k+0) (80+2*k+1) (96+2*k+0) (96+2*k+1) (112+2*k+0) (112+2*k+1)
def Az(a:o5)(Z:U 64):U 64:=o6 a 7 (o6 a 6 (o6 a 5 (o6 a 4 (o6 a 3 (o6 a 2 (o6 a 1 (o6 a 0 (nR a 7 (nR a 6 (nR a 5 (nR a 4 (nR a 3 (nR a 2 (nR a 1 (nR a 0 Z)))))))))))))))
def jh:U 64:=U.of (List.replicate 128 0#64)
def mW(a b:U 64):yc:=iter yd (128-(0:Int)).toNat ⟨dg a,dg b,jh,jh,0⟩
def KC(a:o5)(d:yc):ye:=iter nP (128-(0:Int)).toNat ⟨d.W,d.R,Az a (dg d.R),0⟩
def tR(a:o5)(b c:U 64):U 64:=(KC a (mW b c)).Z
def RO(k:Int)(Z:U 64):Bool:=tQ.aS ⟨Z,16*k+0,16*k+1,16*k+2,16*k+3,16*k+4,16*k+5,16*k+6,16*k+7,16*k+8,16*k+9,16*k+10,16*k+11,16*k+12,16*k+13,16*k+14,16*k+15⟩
def RP(k:Int)(Z:U 64):Bool:=tQ.aS ⟨Z,0+2*k+0,0+2*k+1,16+2*k+0,16+2*k+1,32+2*k+0,32+2*k+1,48+2*k+0,48+2*k+1,64+2*k+0,64+2*k+1,80+2*k+0,80+2*k+1,96+2*k+0,96+2*k+1,112+2*k+0,112+2*k+1⟩
def KD(a:o5):List Int→U 64→List Bool|[],_=>[]|k::r,Z=>KD a r (nR a k Z)++[RO k Z]
def KE(a:o5):List Int→U 64→List Bool|[],_=>[]|k::r,Z=>KE a r (o6 a k Z)++[RP k Z]
def KF(a:o5):List Int→U 64→U 64|[],Z=>Z|k::r,Z=>KF a r (nR a k Z)
def ad4(c:o5)(a b:U 64):List Bool:=true::true::decide (0+128≤(KC c (mW a b)).Z.n)::l9.aS ⟨(mW a b).W,(mW a b).R,Az c (dg (mW a b).R),0⟩::(KE c [0,1,2,3,4,5,6,7] (KF c [0,1,2,3,4,5,6,7] (dg (mW a b).R))++(KD c [0,1,2,3,4,5,6,7] (dg (mW a b).R)++[true,true]))
structure Gg where
 (x y:U 64)
def KG(a:List af)(b:List ah):Option Gg:=
 match a with
 |[.agg c,.agg d]=>
  match b with
  |[]=>
   (match jZ 128 c with
   |some e=>
   (match jZ 128 d with
   |some f=>some ⟨e,f⟩|none=>none)
   |none=>none)
  |_=>none
 |_=>none
def tS:bT Gg where
 d0:=⟨0,0⟩
 read:=KG
 args:=fun⟨a,b⟩=>[.agg (dS a 128),.agg (dS b 128)]
 heap:=fun⟨_,_⟩=>[]
 val:=fun⟨a,b⟩=>(.agg (dS (tR gM a b) 128))
 aS:=fun⟨a,_⟩=>decide (a.n=a.n)
def ad5(a:List af)(b:List ah)(d:Gg)(h:tS.read a b=some d):a=tS.args d∧b=tS.heap d:=by
 replace h:KG a b=some d:=h;unfold KG at h;split at h
 case h_2=>cases h
 split at h
 case h_2=>cases h
 split at h
 case h_2=>cases h
 rename_i c;obtain⟨rfl,_⟩:=kW c;split at h
 case h_2=>cases h
 rename_i e;obtain⟨rfl,_⟩:=kW e;cases h;exact⟨rfl,rfl⟩
def ad6(a:o5)(b c:U 64):nI 0 (some []) [] (.agg (dS (tR a b c) 128)) (bY (KB a) nQ 29 (tS.args ⟨b,c⟩) ⟨[],bJ,[],[]⟩) (ad4 a b c):=by show _=_;kernel_rfl
end
end Go.Proofs.YtcminalaicidiaaGreatDoor
end

/- A part of the proof of FnArgon2. No condition. -/
import Derived.Test.YtcminalaicidiaaGreatDoorWB
import Derived.OpenShut
import Derived.WideKeyArgs
import Derived.ChangeSlices
import Derived.RowKit3
import Derived.Laws.Externs
set_option maxRecDepth 100000
set_option maxHeartbeats 8000000
set_option linter.all false
def an0:=@Array.getElem?_replicate
def an2:=@Classical.choose_spec
def H7:=@Classical.not_not
def Bp:=@List.length_range
def fQ:=@List.mem_append
def Wm:=@List.mem_append_left
def an1:=@List.mem_append_right
def y7:=@List.mem_map
def oA:=@List.mem_range
def ta:=@List.mem_singleton
def Wn:=@List.nodup_cons
def N7:=@Nat.le_of_lt
def N8:=@Nat.lt_succ_self
def y6:=@beq_false
def Bq:=@beq_true
noncomputable section
namespace Go.ay
section
variable [aR][aG]
open Region
variable{o:Oper}{b i:Nat}{ev:Operand→af}{Q:Op}{S W:ai}{q:Nat}{D:Nat→Prop}{k:Nat}{R:af}{n t c:Nat}{d Y:Data}{p:Nat}{P:Program}{V X:ai}{v:af}
def Ab(t:Nat):∀l:List Nat,oI t l=true↔t∈l
 |[]=>by simp[oI]|R::r=>by
  simp only[oI];cases h:Nat.beq R t with
  |true=>have:R=t:=by simpa using h
         simp[this]
  |false=>
   have:R≠t:=by intro a;subst a;simp at h
   simp only[jJ,Ab t r];constructor
   ·exact .inr
   ·rintro(a|h)
    ·exact absurd a.symm this
    ·exact h
def Qd{C:eJ}{call:gd}(e:mJ C.P ev Q=some b)(h:dZ C call ev Q S=some (R,W)):
 ∃k,aW b S.H=some k∧k.mode≠.bn:=by
 have u:∀d,S.read b=some d→∃k,aW b S.H=some k∧k.mode≠.bn:=by
  intro d r;unfold ai.read at r;split at r
  ·rename_i Y m w;refine⟨_,w,?_⟩;intro g;simp only at g;subst g;cases r
  ·cases r
 have A:∀v,rR v=some b→∃o,v=.ref (.ptr b o):=by
  intro v f;unfold rR at f;split at f
  ·injection f with f;subst f;exact⟨_,rfl⟩
  ·cases f
 cases Q<;>simp only[mJ,reduceCtorEq]at e
 case convert E d R=>
  split at e
  case h_2=>cases e
  rename_i w;obtain⟨o,l,c,f⟩:∃o l c,ev R=.ref (.sl b o l c):=by
   unfold Ew at e;split at e
   ·injection e with e;subst e;exact⟨_,_,_,by assumption⟩
   ·cases e
  simp only[dZ,nt,zw,f]at h;split at h
  ·cases h
  split at h
  ·simp[w9]at h
  ·unfold zv at h;rw[w]at h;simp only at h;split at h
   ·cases l with
    |s z=>cases h
    |c n=>
     cases n with
     |zero=>cases h
     |succ n=>
      simp only at h;split at h
      ·cases h
      ·rename_i j;exact⟨_,j,by intro g;cases g⟩
      ·cases h
   ·cases h
  ·cases h
 case load t a=>
  obtain⟨o,x⟩:=A _ e;simp only[dZ,nt,x,oH]at h;split at h
  ·cases h
  ·split at h
   ·split at h
    ·rename_i l j;simp only[rP]at j;split at j
     ·exact u _ (by assumption)
     ·cases j
    ·cases h
   ·cases h
  ·simp only[uN]at h;split at h
   ·exact u _ (by assumption)
   ·cases h
 case slice t a lo hi F=>
  split at e
  case h_2=>cases e
  rename_i y;obtain⟨o,x⟩:=A _ e;simp only[dZ,nt,x,xb]at h;unfold BW at y;split at y
  case h_2=>cases y
  rename_i n g B;simp only[B]at h;split at h
  ·cases h
  ·unfold zk at h
   repeat'(split at h)
   all_goals first
    |(cases h;done)
    |exact u _ (by assumption)
  ·cases h
def Qe{C:eJ}{call:gd}(e:BX ev Q=some c)(h:dZ C call ev Q S=some (R,W)):∀b,b≠c→aW b W.H=aW b S.H:=by
 intro b l;cases Q<;>simp only[BX,reduceCtorEq]at e;rename_i t a v;have f:∃o,ev a=.ref (.ptr c o):=by
  unfold rR at e;split at e
  ·rename_i o m;injection e with e;subst e;exact⟨_,m⟩
  ·cases e
 obtain⟨o,f⟩:=f;dsimp only[dZ,nt]at h;unfold Ev at h;split at h
 case h_2=>cases h
 rename_i V h1;simp only[aD,aO]at h;obtain⟨_,rfl⟩:=h;rw[f]at h1;have j:∀{T g:ai} {d:Data},Pure S T→T.write c d=some g→aW b g.H=aW b S.H:=by
  intro T g d r s;obtain⟨u,_,h2,_⟩:=ai.zY s;rw[h2,cg,cg,mw (fC l),r.H]
 simp only[zh]at h1
 repeat'(split at h1)
 all_goals first
  |(cases h1;done)
  |exact j (Data.pY ‹Data.over _ _ _ _=some _›).1 h1|exact j (Data.Jd ‹Data.set _ _ _ _=some _›).1 h1
def Qf:∀(l pre r:List af),mF l=(pre,r)→l=pre++r
 |[],pre,r,h=>by simp only[mF,aO]at h;obtain⟨rfl,rfl⟩:=h;rfl
 |R::l,pre,r,h=>by
  simp only[mF]at h;split at h
  ·simp only[aO]at h;obtain⟨rfl,rfl⟩:=h;rfl
  ·generalize e:mF l=q at h;obtain⟨a,c⟩:=q;simp only[aO]at h;obtain⟨rfl,rfl⟩:=h;rw[Qf l a c e];rfl
def Qg:∀(l:List af) (ws:List (BitVec 8)) (r:List af),oG l=(ws,r)→∃u,l=u++r∧u.length=ws.length
 |[],ws,r,h=>by simp only[oG,aO]at h;obtain⟨rfl,rfl⟩:=h;exact⟨[],rfl,rfl⟩
 |R::l,ws,r,h=>by
  simp only[oG]at h;split at h
  ·generalize e:oG l=q at h;obtain⟨a,c⟩:=q;simp only[aO]at h;obtain⟨rfl,rfl⟩:=h;obtain⟨u,f,g⟩:=Qg l a c e;exact⟨R::u,by rw[f];rfl,by simp[g]⟩
  ·simp only[aO]at h;obtain⟨rfl,rfl⟩:=h;exact⟨[],rfl,rfl⟩
def Qh{o:N}(h:d.kL o (.s n) S=some (Y,W)):∀l,Y≠.gen l:=by
 intro l a;subst a;cases d<;>simp only[Data.kL]at h<;>(try cases o)<;>simp at h
def Z0{o:N}(h:d.sub o (.s n) S=some (Y,W)):∀l,Y≠.gen l:=by
 unfold Data.sub at h;split at h
 ·rename_i a;cases h;exact Qh a
 ·split at h
  ·exact Qh h
  ·unfold Data.qC at h;split at h
   ·simp only[aD,aO]at h;obtain⟨rfl,_⟩:=h;intro l e;cases e
   ·cases h
def Qi{e:Type}:∀(o:Nat) (l a:List e),nk [] o l=some a→a=l
 |0,l,a,h=>by
  simp only[nk]at h;have f:Nat.ble ([]:List e).length l.length=true:=N3 (j0 _);rw[f]at h;simp only[aD,kI,HX,jK]at h;exact h.symm
 |o+1,[],a,h=>by simp[nk]at h|o+1,R::r,a,h=>by
  simp only[nk]at h;split at h
  ·rename_i g j;cases h;rw[Qi o r g j]
  ·cases h
def Z1(a:rS ev Q S=some (c,p,q)):
 ∃Ac d e f g h l m pre r ws post,Q=.call Ac∧Ac.callee=.builtin .copy∧Ac.args.toList=[d,e]∧ev d=.ref (.sl c f g h)∧Iu (ev e)=true∧
  aW c S.H=some ⟨.gen l,m⟩∧(Data.gen l).words=none∧mF l=(pre,r)∧oG r=(ws,post)∧p=pre.length∧q=pre.length+ws.length:=by
 unfold rS at a;split at a
 case h_2=>cases a
 rename_i Ac;split at a
 case h_2=>cases a
 rename_i F j;split at a
 case h_2=>cases a
 split at a
 case h_2=>cases a
 rename_i d e s;split at a
 case h_2=>cases a
 rename_i b f g h u;split at a
 case h_2=>cases a
 rename_i w;split at a
 case h_2=>cases a
 rename_i l m x;split at a
 ·cases a
 rename_i y;generalize z:mF l=A at a;obtain⟨pre,r⟩:=A;simp only at a;generalize B:oG r=E at a;obtain⟨ws,post⟩:=E;simp only[aD,aO]at a;obtain⟨rfl,rfl,rfl⟩:=a;exact⟨Ac,d,e,f,g,h,l,m,pre,r,ws,post,rfl,j,s,u,w,x,y,z,B,rfl,rfl⟩
def Qj{C:eJ}{call:gd}(ag:rS ev Q S=some (b,p,q))(h:dZ C call ev Q S=some (R,W)):
 (∀c,c≠b→aW c W.H=aW c S.H)∧∀o,¬(p≤o∧o<q)→cellOf o (aW b W.H)=cellOf o (aW b S.H):=by
 obtain⟨Ac,d,ah,x,y,aj,l,m,pre,r,ws,post,rfl,ak,al,am,z,K,ao,L,M,rfl,rfl⟩:=Z1 ag;obtain⟨u,O,aa⟩:=Qg _ _ _ M;have ab:=Qf _ _ _ L;have ap:(Data.gen l).mid=some ⟨pre,U.of ws,post⟩:=by
  simp only[Data.mid,L,M]
 simp only[dZ,nt,uS,ak,BV,xh,BO,al,lO,am,zn]at h;split at h
 case h_2=>cases h
 split at h
 case h_2=>cases h
 have aq:js (.ref (.sl b x y aj))=some y:=rfl;simp only[aq]at h;split at h
 ·cases h
 rename_i bF E;split at h
 ·cases h
 rename_i ad V e;have ar:∀g,ad=.gen g→g=[]:=by
  intro g j;generalize ev ah=aP at z E e;unfold Iu at z;split at z
  ·rename_i cr aQ au aS;simp only[js,aD]at E;subst E;simp only[lg]at e;split at e
   ·have av:∃k,(N.s au).min y=.s k:=by cases y<;>exact⟨_,rfl⟩
    obtain⟨k,aw⟩:=av;rw[aw]at e;exact absurd j (Z0 e g)
   ·cases e
  ·simp only[lg,aD,aO]at e;obtain⟨F,_⟩:=e;rw[←F]at j;injection j with j;exact j.symm
  ·cases z
 have A:=z9 e;split at h
 ·cases h
 split at h
 ·cases h
 rename_i ax f;have ay:ax=.gen l:=by
  unfold ai.read at f;rw[A.H,K]at f;simp only at f;split at f
  ·cases f
  ·injection f with f;exact f.symm
 subst ay;split at h
 case h_2=>cases h
 rename_i Y X a;split at h
 case h_2=>cases h
 rename_i az aA;simp only[aD,aO]at h;obtain⟨_,rfl⟩:=h;have I:=(Data.pY a).1;obtain⟨aT,w1,ae,_⟩:=ai.zY aA;refine⟨fun b aB=>by rw[ae,cg,cg,mw (fC aB),I.H,A.H],fun o aU=>?_⟩;have aC:∃w:List af,w.length=ws.length∧Y=.gen (pre++(w++post)):=by
  unfold Data.over at a;split at a
  ·rename_i r B;injection a with a;subst a;cases x with
   |c x=>
    cases ad with
    |gen g=>
     have j:=ar g rfl;subst j;simp only[Data.ju,bT,aO]at B;obtain⟨aV,aE,rfl,_⟩:=B;have F:=Qi _ _ _ aE;subst F;exact⟨u,aa,by rw[ab,O]⟩
    |_=>simp[Data.ju,Data.j5]at B
   |s x=>simp[Data.ju]at B
  ·rw[ao]at a;simp only[Data.BF,ap]at a;split at a
   ·simp only[aD,aO,uM.put]at a;obtain⟨rfl,_⟩:=a;refine⟨_,?_,rfl⟩
    show((List.range (U.of ws).n).map _).length=ws.length;rw[mA,Bp];rfl
   ·cases a
 obtain⟨w,aF,rfl⟩:=aC;have J:aW b S.H=some ⟨.gen l,m⟩:=K;have aI:b<X.H.length:=by rw[I.H,A.H];exact se J
 have aK:(X.H.set b ⟨.gen (pre++(w++post)),.own⟩)[b]? =some ⟨.gen (pre++(w++post)),.own⟩:=pL aI;have aL:m=.own:=by
  rw[I.H,A.H,←cg,J]at w1;injection w1 with w1;injection w1
 subst aL;have aM:aW b az.H=some ⟨.gen (pre++(w++post)),.own⟩:=by rw[ae,cg];exact aK
 have aN:aW o (pre++(w++post))=aW o l:=by
  rw[cg,cg,ab,O];rcases cu o pre.length with h1|h1
  ·rw[gV h1,gV h1]
  ·rw[gL h1,gL h1];have h2:ws.length≤o-pre.length:=by omega
   rw[gL (by omega),gL (by omega),aF,aa]
 rw[aM,J];simp only[cellOf,aN]
def Z2(h:mJ P ev Q=some b):CE P Q=true:=by
 cases Q<;>simp only[mJ,reduceCtorEq]at h
 case load=>rfl
 case slice=>
  split at h
  ·assumption
  ·cases h
 case convert=>
  split at h
  ·assumption
  ·cases h
def Z3(h:mJ P ev Q=some b):isRead Q=true:=by
 cases Q<;>simp only[mJ,reduceCtorEq]at h
 case load=>rfl
 case slice=>rfl
 case convert=>
  split at h
  ·assumption
  ·cases h
def Z4(h:isRead Q=true):kN Q=false∧gf Q=false:=by cases Q<;>simp_all[isRead,kN,gf]
def Z5{ops:Array Oper}{a:Operand→af}(h:∀t∈Oper.looksAt ops o,ev (.tmp t)=a (.tmp t))(S:ai):mI ops.toList ev o.guard S=mI ops.toList a o.guard S:=by
 unfold mI;cases f:o.guard with
 |none=>rfl|some g=>
  obtain⟨j,r⟩:=g;simp only[cg];cases l:ops.toList[j]? with
  |none=>rfl|some e=>
   simp only;cases m:e.dst with
   |none=>rfl|some d=>
    simp only;rw[h d (by
     have:ops[j]? =some e:=by simpa using l
     simp[Oper.looksAt,f,this,m])]
def JC{β:aE}{a:Act}(y:∀R,aC β (ev R) (a.eval R)){ops:Array Oper}{b:Bool}(h:mI ops.toList ev o.guard S=some (b,W)):
 W.ok→Region.wanted o (yielded ops a.tmps)=b:=by
 unfold mI at h;split at h
 ·rename_i l;simp only[aD,aO]at h;obtain⟨rfl,rfl⟩:=h;exact fun _=>by simp[Region.wanted,l]
 ·rename_i j H l;rw[cg]at h;cases m:ops.toList[j]? with
  |none=>simp[m]at h|some z=>
   simp only[m]at h;split at h
   ·cases h
   rename_i d s;split at h
   case h_3=>cases h
   case h_2=>
    rename_i u;simp only[aD,aO]at h;obtain⟨rfl,rfl⟩:=h;refine fun _=>?_;have g:=y (.tmp d);rw[u]at g;have e:=g.P1;simp only[Act.eval]at e;have r:ops[j]? =some z:=by simpa using m
    have w:yielded ops a.tmps j=none:=by
     rcases cu d a.tmps.size with f|f
     ·have x:a.tmps[d]? =some (.tuple #[]):=by
       simp only[gX,dP f,ij]at e;rw[dP f,e]
      simp[yielded,r,s,x]
     ·simp[yielded,r,s,Eg f]
    simp[Region.wanted,l,w]
   rename_i A u;split at h
   case h_2=>cases h
   rename_i t V E;simp only[aD,aO]at h;obtain⟨rfl,rfl⟩:=h;obtain⟨I,F⟩:=B.oO E;refine fun ok=>?_;have g:=y (.tmp d);rw[u]at g;have e:=g.tC;simp only[Act.eval]at e;have f:d<a.tmps.size:=by
    rcases cu d a.tmps.size with h|h
    ·exact h
    ·simp[gX,Eg h,undef]at e
   have x:a.tmps[d]? =some (.bool A.v):=by
    simp only[gX,dP f,ij]at e;rw[dP f,e]
   have r:ops[j]? =some z:=by simpa using m
   have w:yielded ops a.tmps j=some A.v:=by
    simp[yielded,r,s,x]
   simp[Region.wanted,l,w,F ok]
namespace jy
variable{C:eJ}{call:gd}{an Z:Nat}{dyn:Bool}{ops:Array Oper}{base:Nat}{aH:Nat→aJ×ai}{evs:Nat→Option g8}
def qO(ops:Array Oper)(t k:Nat):Prop:=∃o,ops[k]? =some o∧o.dst=some t
def Ord(ops:Array Oper)(i:Nat)(cW:Nat→Prop):Prop:=∀k,k<ops.size→cW k→k≠i→(k<i→eY ops i k)∧(i<k→eY ops k i)
structure nG(ops:Array Oper)(D:Nat→Prop)(i:Nat)(o:Oper):Prop where
 kn:Closed ops D
 not:¬D i
 get:ops[i]? =some o
 pre:∀e∈o.after,binds .any e=true→D e.on
def nG.later(a:nG ops D i o)(e:k<ops.size)(h:eY ops k i):¬D k:=fun f=>
 a.not (FF a.kn k i _ (dP e) h fun g j l=>a.kn k _ (dP e) f g j l)
def nG.iff(a:nG ops D i o){cW:Nat→Prop}(h:Ord ops i cW):∀k,k<ops.size→cW k→(D k↔k<i):=by
 intro k e g;rcases wV k i with h1|h1|h1
 ·exact⟨fun _=>h1,fun _=>FF a.kn i k o a.get ((h k e g (by omega)).1 h1) a.pre⟩
 ·subst h1;exact⟨fun f=>absurd f a.not,fun h=>absurd h (Nat.lt_irrefl _)⟩
 ·exact⟨fun f=>absurd f (a.later e ((h k e g (by omega)).2 h1)),fun h=>by omega⟩
def nG.closed(e:nG ops D i o):Closed ops (fun k=>D k∨k=i):=by
 intro k l a f g h j;rcases f with f|rfl
 ·exact .inl (e.kn k l a f g h j)
 ·rw[e.get]at a;injection a with a;subst a;exact .inl (e.pre g h j)
variable(T:jy C call an Z dyn ops base aH evs)
include T
def FM{j:Nat}{a b:Oper}(g:k<j)(h:ops[k]? =some a)(l:ops[j]? =some b):
 eY ops j k∨((∀t,a.dst=some t→t∉Oper.looksAt ops b)∧(∀t,b.dst=some t→t∉Oper.looksAt ops a)∧∀t,a.dst=some t→b.dst≠some t):=by
 refine(vw T.reg g h l).imp id fun h1=>?_;simp only[p0,dI,nj]at h1;obtain⟨⟨⟨⟨⟨h1,h2⟩,h3⟩,_⟩,_⟩,_⟩:=h1;refine⟨fun t e f=>?_,fun t e f=>?_,fun t e m=>?_⟩
 ·rw[e]at h1;simp only[FH]at h1;rw[(Ab _ _).2 f]at h1;cases h1
 ·rw[e]at h2;simp only[FH]at h2;rw[(Ab _ _).2 f]at h2;cases h2
 ·rw[e,m]at h3;simp[P5]at h3
def Z6(hi:ops[i]? =some o)(a:t∈Oper.looksAt ops o):Ord ops i (qO ops t):=by
 intro k g ⟨j,e,f⟩ l;refine⟨fun h=>?_,fun h=>?_⟩
 ·rcases T.FM h e hi with h1|⟨h1,_⟩
  ·exact h1
  ·exact absurd a (h1 t f)
 ·rcases T.FM h hi e with h1|⟨_,h1,_⟩
  ·exact h1
  ·exact absurd a (h1 t f)
def Z7(hi:ops[i]? =some o)(a:o.dst=some t):Ord ops i (qO ops t):=by
 intro k g ⟨j,e,f⟩ l;refine⟨fun h=>?_,fun h=>?_⟩
 ·rcases T.FM h e hi with h1|⟨_,_,h1⟩
  ·exact h1
  ·exact absurd a (h1 t f)
 ·rcases T.FM h hi e with h1|⟨_,_,h1⟩
  ·exact h1
  ·exact absurd f (h1 t a)
def Qk(f:¬qO ops t k)(g:k<ops.size):(aH (k+1)).1.get an t=(aH k).1.get an t:=by
 have e:=dP g;have a:∀v,((aH k).1.put an ops[k].dst v).get an t=(aH k).1.get an t:=by
  intro v;cases j:ops[k].dst with
  |none=>rfl|some d=>exact aJ.PY an _ v (fun l=>f ⟨ops[k],e,by rw[j,l]⟩)
 obtain⟨b,V,m,r,h|h|h⟩:=FK (T.step k _ e)
 ·rw[h.2.1];exact a _
 ·obtain⟨_,_,v,_,h⟩:=h;rw[h];exact a _
 ·obtain⟨_,_,v,X,_,_,h,_⟩:=h;rw[h];exact a _
def Z8(hi:ops[i]? =some o)(O:Pure (aH i).2 V)(U:tq C.P ((aH i).1.ev an) o.op V=none)(u:mJ C.P ((aH i).1.ev an) o.op=some b)
 (aQ:dZ C call ((aH i).1.ev an) o.op (iG dyn V)=some (v,X)) (aa:evs i=oL C.P dyn ((aH i).1.ev an) o.op V X):Ord ops i (cW aH b):=by
 have ab:=(dX.1 hi).1;have y:=Z2 u;obtain⟨ad,al⟩:=Z4 (Z3 u);intro k I g am;have j:=dP I;have J:dyn=true→kN ops[k].op=true→∃f,evs k=some f∧zx b f=true∧Og f=false:=by
  intro m r;obtain⟨_,h1|⟨ae,_⟩|⟨_,_,v',w,K,z,L,h1,ag,A⟩⟩:=T.vA j
  ·exact absurd (by rw[h1]) g
  ·rw[JA ae]at r;cases r
  ·cases x:BX ((aH k).1.ev an) ops[k].op with
   |some c=>
    refine⟨.one c,by rw[A];simp[oL,m,r,x],?_,rfl⟩;have:=Qe x L;by_cases f:c=b
    ·simp[zx,f]
    ·exact absurd (by rw[h1,this b (fC f),gk,z.H]) g
   |none=>
    cases B:rS ((aH k).1.ev an) ops[k].op w with
    |some t=>
     obtain⟨c,p,q⟩:=t;refine⟨.span c p q,by rw[A];simp[oL,m,r,x,B],?_,rfl⟩;have ah:rS ((aH k).1.ev an) ops[k].op (iG dyn w)=some (c,p,q):=by rw[←B];unfold rS;rw[gk]
     have:=(Qj ah L).1;by_cases f:c=b
     ·simp[zx,f]
     ·exact absurd (by rw[h1,this b (fC f),gk,z.H]) g
    |none=>
    refine⟨.xj (Nat.min K.low w.H.length),by rw[A];simp[oL,m,r,x,B],?_,rfl⟩;simp only[zx];refine N3 (NZ fun M=>g ?_);have aj:b<K.low:=dN M (Bm _ _);have ak:b<w.H.length:=dN M (Bn _ _);have:=ag.same b (by rw[gk];exact ak) aj;rw[gk,z.H]at this;rw[h1];exact this
 have N:dyn=true→evs i=some (.load b):=by
  intro m;rw[aa];simp[oL,m,ad,u,U]
 refine⟨fun h=>?_,fun h=>?_⟩
 ·rcases vw T.reg h j hi with h1|h1
  ·exact h1
  ·simp only[p0,dI,nj,y3,Bo,pN]at h1;obtain⟨⟨⟨_,h3⟩,h4⟩,e⟩:=h1;rcases T.tK j g with a|⟨a,_⟩
   ·rcases e with e|⟨_,e⟩
    ·obtain⟨f,E,s,F⟩:=J e a;have:=T.evs k i _ _ h ab E (N e);refine(FG ops i k).1 ?_;cases f with
     |load c=>cases F
     |cell c d=>cases F
     |xj l=>simpa[pQ,s]using this|one c=>simpa[pQ,s]using this|span c p q=>simpa[pQ,s]using this
    ·rcases e with e|e
     ·rw[a]at e;cases e
     ·rw[y]at e;cases e
   ·rcases h4 with h4|⟨_,h4⟩
    ·rw[a]at h4;cases h4
    ·rw[y]at h4;cases h4
 ·rcases vw T.reg h hi j with h1|h1
  ·exact h1
  ·simp only[p0,dI,nj,y3,Bo,pN]at h1;obtain⟨_,e⟩:=h1;rcases T.tK j g with a|⟨a,f⟩
   ·rcases e with e|⟨e,_⟩
    ·obtain⟨f,E,s,F⟩:=J e a;have:=T.evs i k _ _ h I (N e) E;refine(FG ops k i).1 ?_;simpa[pQ,s]using this
    ·rcases e with e|e
     ·rw[y]at e;cases e
     ·rw[a]at e;cases e
   ·exfalso;subst f;obtain⟨ao,h1,h2⟩:=Qd u aQ;rw[gk,O.H,T.early j a i (by omega)]at h1;injection h1 with h1;subst h1;exact h2 rfl
def qP(aH:Nat→aJ×ai)(b o k:Nat):Prop:=cellOf o (aW b (aH (k+1)).2.H)≠cellOf o (aW b (aH k).2.H)
omit T in
def qP.ch{o:Nat}(h:qP aH b o k):cW aH b k:=fun a=>h (by rw[a])
def Z9(hi:ops[i]? =some o)(O:Pure (aH i).2 V)(U:tq C.P ((aH i).1.ev an) o.op V=some (b,q))
 (aQ:dZ C call ((aH i).1.ev an) o.op (iG dyn V)=some (v,X)) (am:evs i=oL C.P dyn ((aH i).1.ev an) o.op V X):Ord ops i (qP aH b q):=by
 have ao:=(dX.1 hi).1;obtain⟨t,ad,l,m,R,w,_,ap,x,_⟩:=Jp U;have E:CE C.P o.op=true:=by rw[w];rfl
 have aq:kN o.op=false:=by rw[w];rfl
 have aA:gf o.op=false:=by rw[w];rfl
 intro k aa ab aB;have j:=ab.ch;have g:=dP aa;have ae:dyn=true→kN ops[k].op=true→∃f,evs k=some f∧zy b q f=true∧Og f=false:=by
  intro r s;obtain⟨_,h1|⟨ar,_⟩|⟨_,_,v',y,ag,z,ah,h1,au,F⟩⟩:=T.vA g
  ·exact absurd (by rw[h1]) j
  ·rw[JA ar]at s;cases s
  ·cases A:BX ((aH k).1.ev an) ops[k].op with
   |some c=>
    refine⟨.one c,by rw[F];simp[oL,r,s,A],?_,rfl⟩;have:=Qe A ah;by_cases f:c=b
    ·simp[zy,f]
    ·exact absurd (by rw[h1,this b (fC f),gk,z.H]) j
   |none=>
    cases I:rS ((aH k).1.ev an) ops[k].op y with
    |some t=>
     obtain⟨c,J,K⟩:=t;refine⟨.span c J K,by rw[F];simp[oL,r,s,A,I],?_,rfl⟩;have av:rS ((aH k).1.ev an) ops[k].op (iG dyn y)=some (c,J,K):=by rw[←I];unfold rS;rw[gk]
     have aj:=Qj av ah;by_cases f:c=b
     ·subst f;by_cases L:J≤q∧q<K
      ·simp[zy,L.1,L.2]
      ·exact absurd (by rw[h1,aj.2 q L,gk,z.H]) ab
     ·exact absurd (by rw[h1,aj.1 b (fC f),gk,z.H]) j
    |none=>
    refine⟨.xj (Nat.min ag.low y.H.length),by rw[F];simp[oL,r,s,A,I],?_,rfl⟩;simp only[zy];refine N3 (NZ fun ak=>j ?_);have aw:b<ag.low:=dN ak (Bm _ _);have ax:b<y.H.length:=dN ak (Bn _ _);have:=au.same b (by rw[gk];exact ax) aw;rw[gk,z.H]at this;rw[h1];exact this
 have al:dyn=true→evs i=some (.cell b q):=by
  intro r;rw[am];simp[oL,r,aq,U]
 refine⟨fun h=>?_,fun h=>?_⟩
 ·rcases vw T.reg h g hi with h1|h1
  ·exact h1
  ·simp only[p0,dI,nj,y3,Bo,pN]at h1;obtain⟨⟨⟨_,h3⟩,h4⟩,e⟩:=h1;rcases T.tK g j with a|⟨a,_⟩
   ·rcases e with e|⟨_,e⟩
    ·obtain⟨f,M,u,N⟩:=ae e a;have:=T.evs k i _ _ h ao M (al e);refine(FG ops i k).1 ?_;cases f with
     |load c=>cases N
     |cell c d=>cases N
     |xj l=>simpa[pQ,u]using this|one c=>simpa[pQ,u]using this|span c p q=>simpa[pQ,u]using this
    ·rcases e with e|e
     ·rw[a]at e;cases e
     ·rw[E]at e;cases e
   ·rcases h4 with h4|⟨_,h4⟩
    ·rw[a]at h4;cases h4
    ·rw[E]at h4;cases h4
 ·rcases vw T.reg h hi g with h1|h1
  ·exact h1
  ·simp only[p0,dI,nj,y3,Bo,pN]at h1;obtain⟨_,e⟩:=h1;rcases T.tK g j with a|⟨a,f⟩
   ·rcases e with e|⟨e,_⟩
    ·obtain⟨f,M,u,N⟩:=ae e a;have:=T.evs i k _ _ h aa (al e) M;refine(FG ops k i).1 ?_;simpa[pQ,u]using this
    ·rcases e with e|e
     ·rw[E]at e;cases e
     ·rw[a]at e;cases e
   ·exfalso;subst f;rw[O.H,T.early g a i (by omega)]at x;injection x with x;injection x with aC ay;subst ay;rw[w]at aQ;obtain⟨aD,B,az⟩:=Qd (b:=bF ops base k) (by simp only[mJ,ap];rfl) aQ;rw[gk,O.H,T.early g a i (by omega)]at B;injection B with B;subst B;exact az rfl
def aaa(L:n≤ops.size)(y:i≤n)(l:Closed ops D)(h:∀k,k<n→qP aH b q k→(D k↔k<i)):
 cellOf q (aW b (aH (last D (cW aH b) n)).2.H)=cellOf q (aW b (aH i).2.H):=by
 have r:∀k,k<n→¬qP aH b q k→cellOf q (aW b (aH (k+1)).2.H)=cellOf q (aW b (aH k).2.H):=fun k _ f=>H7.1 f;have z:∀m,m≤n→(∀k,k<m→qP aH b q k→D k)→cellOf q (aW b (aH m).2.H)=cellOf q (aW b (aH (last D (qP aH b q) m)).2.H):=by
  intro m
  induction m with
  |zero=>intro _ _;rfl|succ m g=>
   intro s u;simp only[last];split
   ·rfl
   ·rename_i a;have A:¬qP aH b q m:=fun e=>a ⟨u m (by omega) e,e⟩;rw[r m (by omega) A,g (by omega) fun k f=>u k (by omega)]
 have B:∀m,m≤n→cellOf q (aW b (aH (last D (cW aH b) m)).2.H)=cellOf q (aW b (aH (last D (qP aH b q) m)).2.H):=by
  intro m
  induction m with
  |zero=>intro _;rfl|succ m g=>
   intro s;by_cases a:D m∧cW aH b m
   ·have j:last D (cW aH b) (m+1)=m+1:=by simp only[last];rw[ax a]
    rw[j];refine z (m+1) s fun k f e=>?_;rcases cu k m with h1|h1
    ·have E:=T.JB h1 (dP (by omega)) (dP (by omega)) e.ch a.2;exact FF l m k _ (dP (by omega)) E fun F I J=>l m _ (dP (by omega)) a.1 F I J
    ·have:k=m:=by omega
     subst this;exact a.1
   ·have j:last D (cW aH b) (m+1)=last D (cW aH b) m:=by simp only[last];rw[ak a]
    have K:last D (qP aH b q) (m+1)=last D (qP aH b q) m:=by
     simp only[last];rw[ak fun w=>a ⟨w.1,w.2.ch⟩]
    rw[j,K,g (by omega)]
 rw[B n (aV _)];exact FJ (x:=fun k=>cellOf q (aW b (aH k).2.H)) r y h
def aab(hi:ops[i]? =some o)(s:kN o.op=true)(j:∀k f,i<k→ops[k]? =some f→gf f.op=true→b≠bF ops base k):Ord ops i (cW aH b):=by
 intro k l g u;have e:=dP l;refine⟨fun h=>?_,fun h=>?_⟩
 ·rcases vw T.reg h e hi with h1|h1
  ·exact h1
  ·exfalso;simp only[p0,dI,nj,y3,Bo,pN]at h1;obtain⟨⟨⟨_,h3⟩,h4⟩,m⟩:=h1;rcases T.tK e g with a|⟨a,_⟩<;>simp_all
 ·rcases vw T.reg h hi e with h1|h1
  ·exact h1
  ·exfalso;simp only[p0,dI,nj,y3,Bo,pN]at h1;obtain⟨⟨⟨_,h3⟩,h4⟩,m⟩:=h1;rcases T.tK e g with a|⟨a,r⟩
   ·simp_all
   ·exact j k _ h e a r
end jy
end
section
variable [aR][aG][nF]
open Region
variable{i:Nat}{Q:Oper}{U:Type}{l R:List U}{b:Nat}
def aac(h:∀b:Nat,aW b l=aW b R):l=R:=wX fun b=>by rw[←cg,←cg];exact h b
def aad(h:∀b:Nat,(aW b l).isSome=(aW b R).isSome):l.length=R.length:=by
 have e:∀(a c:List U),(∀b:Nat,(aW b a).isSome=true→(aW b c).isSome=true)→a.length≤c.length:=by
  intro a c f;rcases cu c.length a.length with h|h
  ·have:=f c.length (by rw[cg];simp[h]);rw[cg,dz (aV _)]at this;cases this
  ·exact h
 exact Nat.le_antisymm (e _ _ fun b d=>by rw[←h b];exact d) (e _ _ fun b d=>by rw[h b];exact d)
def Ad(h:b<l.length):∃k,aW b l=some k:=⟨l[b],by rw[cg];simp[h]⟩
namespace jy
variable{C:eJ}[lV C]{call:gd}{an bE:Nat}{dyn:Bool}{ops:Array Oper}{base:Nat}{aH:Nat→aJ×ai}{evs:Nat→Option g8}
variable{G:Nat→Option (List af)}
structure Inv(C:eJ)(an bE:Nat)(ops:Array Oper)(base:Nat)(aH:Nat→aJ×ai)(G:Nat→Option (List af))(oX:aE)(H0:List ah)(w0:World)(D:Nat→Prop)(β:aE)(a:Act)(w:World)(H:List ah):Prop where
 kn:Closed ops D
 fr:∀t,aC β ((aH (last D (qO ops t) ops.size)).1.get an t) (a.tmps.getD t undef)
 size:a.tmps.size=bE
 defers:a.defers=nF.ds
 hp:∀b,aW b H=aW b (aH (last D (cW aH b) ops.size)).2.H
 rel:aM G β H w
 aP:∀(k:Nat) Q,ops[k]? =some Q→gf Q.op=true→¬D k→β (bF ops base k)=none
 Aa:∀(k:Nat) Q,ops[k]? =some Q→gf Q.op=true→∀kk,aW (bF ops base k) H=some kk→kk.mode.alive→∃L,β (bF ops base k)=some L
 pX:bJ oX H0 w0 β H w
def Inv.rely{C:eJ}{an bE:Nat}{ops:Array Oper}{base:Nat}{aH:Nat→aJ×ai}{G:Nat→Option (List af)}{oX β:aE}{H0 H:List ah}{w0 w:World}{D:Nat→Prop}{a:Act}
 (au:Inv C an bE ops base aH G oX H0 w0 D β a w H) {c:World} (h:eK w c):Inv C an bE ops base aH G oX H0 w0 D β a c H:=
 ⟨au.kn,au.fr,au.size,au.defers,au.hp,au.rel.rely h,au.aP,au.Aa,au.pX.trans (h.pX β H)⟩
def CK{D cW:Nat→Prop}(n:Nat):last D cW n≤n:=by
 induction n with
 |zero=>exact aV _|succ n c=>simp only[last];split<;>omega
def p5(an:Nat)(ops:Array Oper)(aH:Nat→aJ×ai)(D:Nat→Prop)(c:Operand):af:=
 match c with
 |.tmp t=>(aH (last D (qO ops t) ops.size)).1.get an t|c=>aJ.ev an (aH 0).1 c
variable{oX β:aE}{H0 H:List ah}{w0 w:World}{D:Nat→Prop}{a:Act}
def Inv.ev(au:Inv C an bE ops base aH G oX H0 w0 D β a w H)(d:Operand):aC β (p5 an ops aH D d) (a.eval d):=by
 cases d with
 |tmp t=>exact au.fr t|const v=>exact IY β v|global g=>have:=aC.eC (β:=β) (2*g) (.c 0);rw[show gz (2*g) (N.c 0).v=at' g 0 from IW g 0]at this;exact this
 |func f=>exact .fn (.func f) 0 [] [] [] rfl rfl (fun i d v e=>by simp at e)
variable(T:jy C call an bE dyn ops base aH evs)
include T
def Ql(c:nG ops D i Q){t:Nat}(d:t∈Oper.looksAt ops Q):p5 an ops aH D (.tmp t)=(aH i).1.get an t:=by
 have e:=(dX.1 c.get).1
 show(aH (last D (qO ops t) ops.size)).1.get an t=_;exact FJ (x:=fun k=>(aH k).1.get an t) (fun k f g=>T.Qk g f) (N7 e) (c.iff (T.Z6 c.get d))
def FN(d:nG ops D i Q):∀c∈Q.op.operands,p5 an ops aH D c=(aH i).1.ev an c:=by
 intro c e;cases c with
 |tmp t=>exact T.Ql d (by
  unfold Oper.looksAt;refine Wm _ (List.mem_filterMap.2 ⟨.tmp t,by simpa using e,rfl⟩))
 |_=>rfl
def aae(c:nG ops D i Q)(S:ai):mI ops.toList (p5 an ops aH D) Q.guard S=mI ops.toList ((aH i).1.ev an) Q.guard S:=
 Z5 (fun t d=>T.Ql c d) S
omit T in
def Qm(T:jy C call an bE dyn ops base aH evs)(c:nG ops D i Q)(h:Ord ops i (cW aH b)):aW b (aH (last D (cW aH b) ops.size)).2.H=aW b (aH i).2.H:=by
 have d:=(dX.1 c.get).1;exact FJ (x:=fun k=>aW b (aH k).2.H) (fun k _ e=>H7.1 e) (N7 d) (c.iff h)
def JD{h:aE}(e:nG ops D i Q)(o:∀t,aC h ((aH (last D (qO ops t) ops.size)).1.get an t) (a.tmps.getD t undef))(p:a.tmps.size=bE)
 {j:af} {v:Value} (q:(aH (i+1)).1=(aH i).1.put an Q.dst j) (r:aC h j v):
 ∀t,aC h ((aH (last (fun k=>D k∨k=i) (qO ops t) ops.size)).1.get an t) ((a.put Q.dst v).tmps.getD t undef):=by
 have s:=(dX.1 e.get).1;intro t;by_cases f:Q.dst=some t
 ·have m:qO ops t i:=⟨Q,e.get,f⟩;rw[P9 s m (fun k h1 h2 u=>e.later h2 ((T.Z7 e.get f k h2 u (by omega)).2 h1)),q,f];have x:t<bE:=P8 T.reg Q (by have:=e.get;exact pJ (i:=i) (by simpa using this)) t f;have c:(a.put (some t) v).tmps.getD t undef=v:=by
   simp[Act.put,gX,p,x]
  rw[c];rcases aJ.PZ an (aH i).1 t j with c|c
  ·rw[c];exact r
  ·rw[c];exact .aa _
 ·have m:¬qO ops t i:=by
   rintro⟨z,g,n⟩;rw[e.get]at g;injection g with g;subst g;exact f n
  rw[Qa m];have c:(a.put Q.dst v).tmps.getD t undef=a.tmps.getD t undef:=by
   cases n:Q.dst with
   |none=>rfl|some d=>
    have y:d≠t:=fun c=>f (by rw[n,c]);simp[Act.put,gX,Ec y]
  rw[c];exact o t
omit T in
def FO{d:List ah}(T:jy C call an bE dyn ops base aH evs)(e:nG ops D i Q)(g:∀b,aW b H=aW b (aH (last D (cW aH b) ops.size)).2.H)
 (h1:∀b,cW aH b i→aW b d=aW b (aH (i+1)).2.H) (h2:∀b,¬cW aH b i→aW b d=aW b H):
 ∀b,aW b d=aW b (aH (last (fun k=>D k∨k=i) (cW aH b) ops.size)).2.H:=by
 have h:=(dX.1 e.get).1;intro b;by_cases c:cW aH b i
 ·rw[P9 h c (fun k j f m=>e.later f (T.JB j e.get (dP f) c m))];exact h1 b c
 ·rw[Qa c,h2 b c];exact g b
def aaf(a1:C.dA=G)(a2:fV C.P G call)(V:oW C.P C.gx)(bq:(aH ops.size).2.ok)(cl:H0.length=base){i:Nat}{Q:Oper}(g:nG ops D i Q)
 (au:Inv C an bE ops base aH G oX H0 w0 D β a w H) {ar:Act→World→Prop}
 (aI:∀M a3 w' br,Inv C an bE ops base aH G oX H0 w0 (fun k=>D k∨k=i) M a3 w' br→ar a3 w'):uW C.P ops i ar a w:=by
 have a4:=(dX.1 g.get).1;have ag:(aH (i+1)).2.ok:=T.ZZ (by omega) (aV _) bq;unfold uW;rw[g.get];simp only;have bs:=FK (T.step i Q g.get);obtain⟨b,A,bt,W,bu⟩:=bs;have aK:mI ops.toList (p5 an ops aH D) Q.guard (aH i).2=some (b,A):=by rw[T.aae g];exact bt
 have quiet:∀(x:af) (v:Value) M w',(aH (i+1)).1=(aH i).1.put an Q.dst x→(aH (i+1)).2.H=(aH i).2.H→gf Q.op=false∨b=false→aC M x v→aM G M H w'→bJ β H w M H w'→ar (a.put Q.dst v) w':=by
  intro x v M w' X bv I bw aL F;have av:∀b,¬cW aH b i:=fun b r=>r (by rw[bv]);refine aI M _ w' H ⟨g.closed,T.JD g (fun t=>(au.fr t).mono F.le) au.size X bw,?_,?_,FO T g au.hp (fun b r=>absurd r (av b)) (fun b _=>rfl),aL,?_,?_,au.pX.trans F⟩
  ·cases aj:Q.dst<;>simp[Act.put,au.size]
  ·cases aj:Q.dst<;>simp[Act.put,au.defers]
  ·intro k z s y K;have h1:=au.aP k z s y (fun h=>K (.inl h));have h2:bF ops base k<H.length:=by
    have h3:∃B,aW (bF ops base k) H=some B:=by
     rw[au.hp];refine Ad (dN ?_ (T.CJ (j0 _) (CK _)));rw[T.len];exact vz s y
    obtain⟨B,h3⟩:=h3;exact se h3
   rw[F.old _ h2];exact h1
  ·intro k z s y B J L;obtain⟨al,aN⟩:=au.Aa k z s y B J L;exact⟨al,F.le _ _ aN⟩
 rcases bu with⟨rfl,X,aa⟩|⟨rfl,I,v,bx,X⟩|⟨rfl,I,v,Y,aQ,aa,X,aw⟩
 ·
   rw[JC au.ev aK (by rw[aa]at ag;exact ag)];simp only[nc,ee];exact quiet (.obj .bA []) undef β w X (by rw[aa];exact W.H) (.inr rfl) (.P2 _) au.rel (bJ.refl ..)
 ·
   have a5:p5 an ops aH D=p5 an ops aH D:=rfl;have bz:tn C (p5 an ops aH D) Q.op (base+iH (ops.toList.take i)) A=some (v,(aH (i+1)).2):=by
    rw[←bx];have am:=T.FN g;revert am I;cases Q.op<;>intro I am<;>simp only[gf,nc]at I<;>simp only[tn]
    ·rename_i t n bB;rw[FE (l:=bB.toList) fun p bC=>am p.2 (by simp only[Op.operands];simp;exact⟨p.1,by simpa using bC⟩)]
    ·rename_i t l c;rw[am l (by simp[Op.operands]),am c (by simp[Op.operands])]
   obtain⟨d,bD,bG,bH,bI,_,_,bK⟩:=ZX bz au.ev;have a6:bD.ok:=by
    intro x ao;exact ag x (by rw[bI];exact ao)
   obtain⟨vs,t,aO,bM,a7,bN,bO⟩:=bK a6;rw[JC au.ev aK (bG.ok a6)];simp only[g6];intro ab a8;replace au:=au.rely a8;clear a8;refine⟨_,_,bN ab,fun K=>⟨vo _ _,?_⟩⟩;have bP:=g.not;have a9:=au.aP i Q g.get I bP;have ap:aW (bF ops base i) (aH i).2.H=some ⟨.gen [],.bn⟩:=T.early g.get I i (aV _);have bQ:∃B,aW (bF ops base i) H=some B:=by
    rw[au.hp];refine Ad (dN ?_ (T.CJ (j0 _) (CK _)));rw[T.len];exact vz g.get I
   obtain⟨B,J⟩:=bQ;have ay:H[bF ops base i]? =some B:=by rw[←cg];exact J
   have bR:d.len=vs.length:=by rw[←Data.jx];exact a7.1
   obtain⟨bS,bT,bU⟩:=au.rel.newAt ay a9 d vs t (by omega) (by rw[bR,V8];exact a7) (fI.of (xE K) bM);have ba:aE.le β (β.put (bF ops base i) ⟨ab.heap.size,0,vs.length⟩):=aE.Fj a9;have bb:(aH (i+1)).2.H=fc ⟨d,.own⟩ (bF ops base i) (aH i).2.H:=by rw[bH,W.H];rfl
   have bc:bF ops base i<(aH i).2.H.length:=se ap;have cm:(ab.alloc (.cells ⟨vs⟩ t)).heap.size=ab.heap.size+1:=by
    show(ab.heap.push _).size=_;simp
   refine aI _ _ _ _ ⟨g.closed,T.JD g (fun t=>(au.fr t).mono ba) au.size X (bO ab _ (aE.gq ..)),?_,?_,?_,bS,?_,?_,?_⟩
   ·cases aj:Q.dst<;>simp[Act.put,au.size]
   ·cases aj:Q.dst<;>simp[Act.put,au.defers]
   ·refine FO T g au.hp (fun b r=>?_) (fun b r=>?_)
    ·have e:b=bF ops base i:=by
      rcases T.tK g.get r with h|⟨_,h⟩
      ·rw[JA I]at h;cases h
      ·exact h
     subst e;rw[bb,←iN,kQ,kQ,ax ⟨rfl,se J⟩,ax ⟨rfl,bc⟩]
    ·have e:b≠bF ops base i:=by
      intro E;subst E;apply r
      show aW _ _≠aW _ _;rw[bb,kQ,ax ⟨rfl,bc⟩,ap];simp
     rw[←iN,kQ,ak fun h=>e h.1.symm]
   ·intro k z s y K;rw[aE.g5]
    ·exact au.aP k z s y (fun h=>K (.inl h))
    ·intro E;exact K (.inr (Jz (base:=base) s y g.get I E))
   ·intro k z s y bV ay L;by_cases E:bF ops base k=bF ops base i
    ·rw[E];exact⟨_,aE.gq ..⟩
    ·rw[aE.g5 E];refine au.Aa k z s y bV ?_ L;rw[←iN,kQ,ak fun h=>E h.1.symm]at ay;exact ay
   ·have F:=au.pX;refine⟨aE.le_trans F.le ba,by rw[lJ];exact F.len,F.os,F.tape,F.output,ga F.size (by omega),fun c r K=>?_,fun c r bW=>?_,fun b e=>?_⟩
    ·exact(F.kept c r K).trans (bL.of (bT c (dN r F.size)))
    ·exact F.own c r (bU c (dN r F.size) bW)
    ·rw[aE.g5]
     ·exact F.old b e
     ·have:=CI (ops:=ops) (base:=base) i;omega
 ·
   have aS:Y.ok:=by rw[aa]at ag;exact(Jy A Y).1 ag
   have bX:A.ok:=(Jx A).1 ((Cz T.ext aQ).ok aS);rw[JC au.ev aK bX];simp only[g6];have bd:dZ C call (p5 an ops aH D) Q.op (iG dyn A)=some (v,Y):=by rw[ZQ (T.FN g)];exact aQ
   have aT:∀(aU:dZ C call (p5 an ops aH D) Q.op ((iG dyn A).cV H (iG dyn A).low [])=(dZ C call (p5 an ops aH D) Q.op (iG dyn A)).map (dS H (iG dyn A).low []))
    (O:Y.H=A.H),Q.en C.P a w ar:=by
    intro aU O;rw[bd]at aU;have bY:(Y.cV H (iG dyn A).low []).ok:=by intro x ao;exact aS x (by simpa[ai.cV]using ao)
    refine(Jr a1 a2 V (o:=Q) (a:=a) (S:=(iG dyn A).cV H (iG dyn A).low []) (S':=Y.cV H (iG dyn A).low []) (x:=v) aU au.ev au.rel).2 bY fun aO w' M aX az Z=>?_;exact quiet v aO M w' X (by rw[aa,tJ,O,W.H]) (.inl I) aX az Z
   rcases kinds Q.op with u|u|u|u|u
   ·refine aT (FD u) ?_;have:=(vv (f:=dZ C call ((aH i).1.ev an) Q.op) (fun T cs _ _=>FD u) aQ).H;rw[this,gk]
   ·cases aY:tq C.P ((aH i).1.ev an) Q.op A with
    |some t=>
     obtain⟨b,q⟩:=t;have bZ:tq C.P (p5 an ops aH D) Q.op (iG dyn A)=some (b,q):=by
      obtain⟨t,ad,l,m,x,aA,b0,b1,b2,b3⟩:=Jp aY;have a5:=T.FN g ad (by rw[aA];simp[Op.operands]);rw[aA];simp only[tq,b0,a5,b1,gk,b2,b3]
     refine aT (ZF bZ ?_) ?_
     ·rw[au.hp,gk,W.H];exact T.aaa (aV _) (N7 a4) au.kn (g.iff (T.Z9 g.get W aY aQ aw))
     ·have:=(vv (f:=dZ C call ((aH i).1.ev an) Q.op) (fun T cs E _=>Cy u (fun b _=>by rw[E])) aQ).H;rw[this,gk]
    |none=>
    refine aT (Cy u fun b e=>?_) ?_
    ·rw[ZR (T.FN g)]at e;rw[au.hp,T.Qm g (T.Z8 g.get W aY e aQ aw),gk,W.H]
    ·have:=(vv (f:=dZ C call ((aH i).1.ev an) Q.op) (fun T cs E _=>Cy u (fun b _=>by rw[E])) aQ).H;rw[this,gk]
   ·rw[I]at u;cases u
   ·
     have aB:(iG dyn A).H=(aH i).2.H:=by rw[gk,W.H]
     have aZ:Y.H=(aH (i+1)).2.H:=by rw[aa,tJ]
     let N:Nat→Prop:=fun b=>∃k z,i<k∧ops[k]? =some z∧gf z.op=true∧b=bF ops base k;have ae:∀b,N b→aW b (aH i).2.H=some ⟨.gen [],.bn⟩∧aW b (aH (i+1)).2.H=some ⟨.gen [],.bn⟩:=by
      rintro b ⟨k,z,h1,h2,h3,rfl⟩;exact⟨T.early h2 h3 i (by omega),T.early h2 h3 (i+1) (by omega)⟩
     have bf:∀b,N b→∃B,aW b H=some B:=by
      rintro b ⟨k,z,h1,h2,h3,rfl⟩;rw[au.hp];refine Ad (dN ?_ (T.CJ (j0 _) (CK _)));rw[T.len];exact vz h2 h3
     have aq:∀b,¬N b→aW b H=aW b (aH i).2.H:=by
      intro b e;rw[au.hp];exact T.Qm g (T.aab g.get u fun k z h1 h2 h3 h4=>e ⟨k,z,h1,h2,h3,h4⟩)
     have bg:(aH i).2.H.length=H.length:=by
      refine aad fun b=>?_;by_cases e:N b
      ·obtain⟨B,h⟩:=bf b e;rw[(ae b e).1,h];rfl
      ·rw[aq b e]
     have bh:∀(b:Nat) k,(aH i).2.H[b]? =some k→k.mode.alive→H[b]? =some k:=by
      intro b k u L;by_cases e:N b
      ·rw[←cg,(ae b e).1]at u;injection u with u;subst u;exact absurd rfl L
      ·rw[←cg,aq b e,cg];exact u
     have b4:aM G β (iG dyn A).H w:=by rw[aB];exact au.rel.view bg bh
     refine(Jr a1 a2 V (o:=Q) (a:=a) bd au.ev b4).2 aS fun aO w' M aX az Z=>?_;rw[aZ]at az Z;rw[aB]at Z;have bi:Ext (iG dyn A) Y:=Cz T.ext aQ
     classical
     let H2:List ah:=(List.range (aH (i+1)).2.H.length).map fun b=>if N b then iY H b else iY (aH (i+1)).2.H b
     have bj:H2.length=(aH (i+1)).2.H.length:=by simp[H2]
     have O:∀b,aW b H2=if N b then aW b H else aW b (aH (i+1)).2.H:=by
      intro b;rcases cu b (aH (i+1)).2.H.length with e|e
      ·have:aW b H2=some (if N b then iY H b else iY (aH (i+1)).2.H b):=by
        rw[cg];simp[H2,e]
       rw[this];split
       ·rename_i cB;obtain⟨B,h⟩:=bf b cB;simp[iY,h]
       ·obtain⟨B,h⟩:=Ad e;simp[iY,h]
      ·have h1:aW b H2=none:=by rw[cg];exact dz (by rw[bj];exact e)
       rw[h1];split
       ·rename_i cB;have:=se (ae b cB).2;omega
       ·rw[cg,dz e]
     have av:∀b,N b→¬cW aH b i:=by
      intro b e r;exact r (by rw[(ae b e).1,(ae b e).2])
     obtain⟨b5,bk⟩:=aM.ZW (H2:=H2) au.rel bg bh az Z N bj
      (fun b e=>⟨by rw[←cg,←cg,O,ax e],fun cn aD=>by rw[←cg,(ae b e).1]at aD;injection aD with aD;subst aD;rfl,fun k u L=>by
       obtain⟨b6,z,h1,h2,h3,rfl⟩:=e;rw[←cg]at u;refine⟨?_,au.Aa b6 z h2 h3 k u L⟩;rw[au.hp]at u;have:=T.owned h2 h3 _ (CK _) k u;cases V:k.mode with
       |own=>rfl|ro=>exact absurd V this|bn=>exact absurd V L⟩)
      (fun b e=>by rw[←cg,←cg,O,ak e])
      (fun b k u aL=>by
       rw[←cg]at u⊢;have:=bi.ro b k (by rw[aZ];exact u) aL;rw[aB]at this;exact this)
     refine aI M _ w' H2 ⟨g.closed,T.JD g (fun t=>(au.fr t).mono Z.le) au.size X aX,?_,?_,?_,b5,?_,?_,au.pX.trans bk⟩
     ·cases aj:Q.dst<;>simp[Act.put,au.size]
     ·cases aj:Q.dst<;>simp[Act.put,au.defers]
     ·refine FO T g au.hp (fun b r=>?_) (fun b r=>?_)
      ·rw[O,ak fun e=>av b e r]
      ·rw[O];split
       ·rfl
       ·rename_i e;rw[aq b e];exact H7.1 r
     ·intro k z s y K;have h1:=au.aP k z s y (fun h=>K (.inl h));have h2:bF ops base k<H.length:=by
       obtain⟨B,h3⟩:∃B,aW (bF ops base k) H=some B:=by
        rw[au.hp];refine Ad (dN ?_ (T.CJ (j0 _) (CK _)));rw[T.len];exact vz s y
       exact se h3
      rw[bk.old _ h2];exact h1
     ·intro k z s y B J L;by_cases b7:D k
      ·
        have b8:∃al,β (bF ops base k)=some al:=by
         rw[O]at J;by_cases e:N (bF ops base k)
         ·rw[ax e]at J;exact au.Aa k z s y B J L
         ·rw[ak e]at J;obtain⟨aF,bl⟩:∃aF,aW (bF ops base k) (aH i).2.H=some aF:=by
           refine Ad (dN ?_ (T.CJ (j0 _) (N7 a4)));rw[T.len];exact vz s y
          have b9:aF.mode.alive:=by
           intro V;have:=bi.bn _ _ (by rw[aB];exact bl) V;rw[aZ,J]at this;injection this with this;subst this;exact L V
          exact au.Aa k z s y aF (by rw[aq _ e];exact bl) b9
        obtain⟨al,aN⟩:=b8;exact⟨al,Z.le _ _ aN⟩
      ·
        exfalso;have ca:k≠i:=by
         intro E;subst E;rw[g.get]at s;injection s with s;subst s;rw[y]at I;cases I
        have K:¬(D k∨k=i):=fun h=>h.elim b7 ca;have aA:aW (bF ops base k) H2=aW (bF ops base k) (aH (last (fun k=>D k∨k=i) (cW aH (bF ops base k)) ops.size)).2.H:=
         FO T g au.hp (fun b r=>by rw[O,ak fun e=>av b e r]) (fun b r=>by
          rw[O];split
          ·rfl
          ·rename_i e;rw[aq b e];exact H7.1 r) _
        have co:=(dX.1 s).1;have cb:∀n,n≤ops.size→last (fun k=>D k∨k=i) (cW aH (bF ops base k)) n≤k:=by
         intro n
         induction n with
         |zero=>intro _;simp[last]|succ n cd=>
          intro cp;simp only[last];split
          ·rename_i r;rcases wV n k with h|h|h
           ·omega
           ·subst h;exact absurd r.1 K
           ·exfalso;have ce:cW aH (bF ops base k) k:=by
             intro cf;have ap:∀j,k≤j→j≤ops.size→aW (bF ops base k) (aH j).2.H=some ⟨.gen [],.bn⟩:=by
              intro j
              induction j with
              |zero=>intro h1 _;have:k=0:=by omega
                     subst this;exact T.early s y 0 (aV _)
              |succ j a0=>
               intro h1 h2;rcases cu k (j+1)with h3|h3
               ·by_cases ch:j=k
                ·subst ch;rw[cf];exact T.early s y j (aV _)
                ·have bm:j<ops.size:=by omega
                 obtain⟨_,h|⟨ci,b,_,h⟩|⟨_,_,v,cq,cr,cj,_,h,ao,_⟩⟩:=T.vA (dP bm)
                 ·rw[h];exact a0 (by omega) (by omega)
                 ·rw[h,kQ,ak]
                  ·exact a0 (by omega) (by omega)
                  ·intro⟨E,_⟩;have:=Jz (dP bm) ci s y E;omega
                 ·rw[h];exact ao.bn _ _ (by rw[gk,cj.H];exact a0 (by omega) (by omega)) rfl
               ·have:k=j+1:=by omega
                subst this;exact T.early s y _ (aV _)
             exact r.2 (by rw[ap n (by omega) (by omega),ap (n+1) (by omega) (by omega)])
            have e:=T.JB h s (dP (by omega)) ce r.2;have bo:=g.closed;have bp:n<ops.size:=by omega
            exact K (FF bo n k _ (dP bp) e fun E aw ck=>bo n _ (dP bp) r.1 E aw ck)
          ·exact cd (by omega)
        rw[aA,T.early s y _ (cb _ (aV _))]at J;injection J with J;subst J;exact L rfl
   ·rw[u]at aQ;cases aQ
end jy
end
section
variable [aR][aG][nF]
open Region
variable{R:Array Oper}{Q:Exit→Act→World→Prop}
def Qn:∀(n b:Nat),aW b (mK n)=if b<n then some ⟨.gen [],.bn⟩else none|0,b=>by simp[mK,aW]|n+1,0=>by simp[mK,aW]|n+1,b+1=>by simp[mK,aW,Qn n b]
def Qo:∀n,(mK n).length=n|0=>rfl|n+1=>by simp[mK,Qo n]
def vB(S:ai)(n:Nat):(uU S n).H=S.H++mK n:=by cases n<;>simp[uU,mK]
def aag(S:ai)(n:Nat):(uU S n).ok↔S.ok:=by cases n<;>exact Iff.rfl
def aah(S:ai)(n:Nat):(uU S n).low=S.low:=by cases n<;>rfl
def Ae(a:List ah)(n b:Nat):aW b (a++mK n)=if b<a.length then aW b a else if b<a.length+n then some ⟨.gen [],.bn⟩else none:=by
 rw[cg,cg];by_cases h:b<a.length
 ·rw[gV h,ax h]
 ·rw[gL (by omega),ak h,←cg,Qn];by_cases h2:b<a.length+n
  ·rw[ax h2,ax (by omega)]
  ·rw[ak h2,ak (by omega)]
section
variable{G:Nat→Option (List af)}{β:aE}{w:World}
def aM.pad{g:List ah}(i:aM G β g w)(n:Nat):aM G β (g++mK n) w∧bJ β g w β (g++mK n) w:=by
 have j:∀(b:Nat) k,(g++mK n)[b]? =some k→k.mode.alive→g[b]? =some k:=by
  intro b k a e;rw[←cg,Ae]at a;split at a
  ·rw[←cg];exact a
  ·split at a
   ·injection a with a;subst a;exact absurd rfl e
   ·cases a
 refine⟨⟨fun b k a e=>i.blk b k (j b k a e) e,fun b l k m f o p a q d e=>i.dL b l k m f o p (j b k a (eo d)) (j l m q e) d e,
  fun b f h=>by have:=i.fl b f h;simp;omega,i.dA,fun b k f a d=>i.apart b k f (j b k a (eo d)) d⟩,
  ⟨aE.le_refl β,by simp,rfl,rfl,rfl,aV _,fun _ _ _=>bL.refl _ _,fun c t ⟨b,k,f,a,d,r,s⟩=>⟨b,k,f,j b k a (eo d),d,r,s⟩,fun _ _=>rfl⟩⟩
def count_set:∀(l:List Bool) (i:Nat),l[i]? =some false→(l.set i true).count false+1=l.count false
 |[],i,h=>by simp at h|a::l,0,h=>by simp at h;subst h;simp|a::l,i+1,h=>by
  have:=count_set l i (by simpa using h);simp only[V2,List.count_cons];omega
def aai{l:List Bool}(h:l.count false=0)(i:Nat)(hi:i<l.length):l[i]? =some true:=by
 have a:false∉l:=List.count_eq_zero.1 h;have:l[i]∈l:=V9 hi;rw[bX hi];cases b:l[i]with
 |true=>rfl|false=>rw[b]at this;exact absurd this a
variable{C:eJ}[lV C]{call:gd}{an U:Nat}
def aaj(F:C.dA=G)(I:fV C.P G call)(p:oW C.P C.gx){dyn:Bool}{base:Nat}{aH:Nat→aJ×ai}{evs:Nat→Option g8}
 (T:jy C call an U dyn R base aH evs) (J:(aH R.size).2.ok) {oX:aE} {H0:List ah} {w0:World} (K:H0.length=base)
 (L:∀q w' h,cK an U h (aH R.size).1 q→aM G h (aH R.size).2.H w'→bJ oX H0 w0 h (aH R.size).2.H w'→Q .normal q w'):
 ∀(m:Nat) (listed:Array Bool) (β:aE) (a:Act) (w:World) (d:List ah),listed.size=R.size→listed.toList.count false≤m→
  jy.Inv C an U R base aH G oX H0 w0 (fun k=>listed.getD k false=true) β a w d→EJ C.P .any R Q m listed a w:=by
 have A:∀(listed:Array Bool) (β:aE) (a:Act) (w:World) (d:List ah),listed.size=R.size→
  jy.Inv C an U R base aH G oX H0 w0 (fun k=>listed.getD k false=true) β a w d→Region.ready .any R listed=[]→Q .normal a w:=by
  intro listed β a w d e au r;have M:∀k,k<R.size→listed.getD k false=true:=by
   intro k
   induction k using Nat.strongRecOn with
   |_ k u=>
    intro c;cases f:listed.getD k false with
    |true=>rfl|false=>
     exfalso;have p:k∈Region.ready .any R listed:=by
      rw[mem_ready];refine⟨?_,R[k],dP c,fun g v x=>?_⟩
      ·have N:k<listed.size:=by omega
       simp only[gX,dP N,ij]at f⊢;exact f
      ·have:=ZV T.reg k _ (dP c) g v x;exact u g.on this (by omega)
     rw[r]at p;cases p
  have B:∀{O:Type} (n:Nat→O) (cW:Nat→Prop),(∀k,k<R.size→¬cW k→n (k+1)=n k)→n (last (fun k=>listed.getD k false=true) cW R.size)=n R.size:=
   fun n cW S=>FJ S (aV _) fun k c _=>⟨fun _=>c,fun _=>M k c⟩
  have V:d=(aH R.size).2.H:=aac fun b=>by
   rw[au.hp];exact B (fun k=>aW b (aH k).2.H) _ fun k _ c=>H7.1 c
  subst V;refine L a w β ⟨fun t=>?_,au.size,au.defers⟩ au.rel au.pX;have:=au.fr t;rw[B (fun k=>(aH k).1.get an t) (jy.qO R t) fun k c f=>T.Qk f c]at this;exact this
 intro m
 induction m with
 |zero=>
  intro listed β a w d e f au;have r:Region.ready .any R listed=[]:=by
   rw[List.eq_nil_iff_forall_not_mem];intro j W;obtain⟨o,D,s,_⟩:=mem_ready.1 W;have y:j<listed.size:=by rw[e];exact(dX.1 s).1
   have:=aai (l:=listed.toList) (by omega) j (by simpa using y);simp only[gX,dP y,ij]at o;simp[y,o]at this
  exact⟨r,A listed β a w d e au r⟩
 |succ m u=>
  intro listed β a w d e f au;refine⟨A listed β a w d e au,fun i hi=>?_⟩;obtain⟨o,D,s,X⟩:=mem_ready.1 hi;have z:i<listed.size:=by rw[e];exact(dX.1 s).1
  have E:listed[i]? =some false:=by
   simp only[gX,dP z,ij]at o;rw[dP z,o]
  have Y:jy.nG R (fun k=>listed.getD k false=true) i D:=
   ⟨au.kn,by simp[gX,E],s,fun g v x=>X g v x⟩
  refine T.aaf F I p J K Y au fun h q w' Z aa=>?_;refine u _ h q w' Z (by simp[e]) ?_ ?_
  ·have:=count_set listed.toList i (by simpa using E);simp only[V5];omega
  ·have g:(fun k=>(listed.setIfInBounds i true).getD k false=true)=fun k=>listed.getD k false=true∨k=i:=by
    funext k;by_cases c:i=k
    ·subst c;simp[gX,z]
    ·simp[gX,Ec c,fC c]
   rw[g];exact aa
def Qp(D:C.dA=G)(A:fV C.P G call)(E:oW C.P C.gx)(V:C.P.follows .mixedOrders=true){id:Nat}{m:Bool}{c:Env}(W:c.call=call)(X:c.an=an)
 (F:tI C.P U (c.dyn id) R m=true) {o I:aJ} {S p:ai} {d:dK} (h:B0 C id R.toList (BZ R) m c o S=some (d,I,p)) (ok:p.ok) {a:Act} (q:cK an U β o a) (g:aM G β S.H w)
 (J:∀f w' e,cK an U e I f→aM G e p.H w'→bJ β S.H w e p.H w'→Q .normal f w'):d=.normal∧(Code.region id R m).en C.P Q a w:=by
  subst W X;unfold B0 at h;cases m with
  |false=>
   simp only at h;split at h
   case h_2=>cases h
   rename_i r s B;simp only[aD,aO]at h;obtain⟨rfl,rfl,rfl⟩:=h;refine⟨rfl,?_⟩;refine Ot ?_;have:=ZU D A E (an:=c.an) (ops:=R) (P8 F) (Q:=Q) R.toList 0 o r S s β a w (by simp) B ok q g (fun f w' e u v x=>J f w' e (u.eD _) v x);rw[Wh];simpa using this
  |true=>
   simp only at h;split at h
   case h_2=>cases h
   rename_i r s Y B;split at h
   ·cases h
   rename_i Z;simp only[aD,aO]at h;obtain⟨rfl,rfl,rfl⟩:=h;refine⟨rfl,?_⟩;obtain⟨aH,evs,y,aa,ab,_,ad⟩:=ZY R.toList 0 S.H.length o r (uU S (iH R.toList)) s Y B;have K:aH R.size=(r,s):=by simpa using aa
   have T:jy C c.call c.an U (c.dyn id) R S.H.length aH evs:={
    reg:=F
    ext:=A.ext
    step:=fun k d j=>ab k d (by simpa using j)
    evs:=fun k ae ag ah h1 h2 h3 h4=>by
     have:=ad _ Z k ae ag ah h1 (by simpa using h2) h3 h4;simpa using this
    pad:=fun b h1 h2=>by
     rw[y]
     show aW b (uU S _).H=_;rw[vB,Ae,ak (by omega),ax h2]
    len:=by
     rw[y]
     show(uU S _).H.length=_;rw[vB,fB,Qo]}
   refine WX V fun L M=>?_;have aj:=M.pX β S.H;replace g:=g.rely M;obtain⟨al,am⟩:=(g.drew).pad (iH R.toList);have ao:=(aj.trans (bJ.drew β S.H L)).trans am;have N:∀cW n,last (fun k=>(Array.replicate R.size false).getD k false=true) cW n=0:=by
    intro cW n
    induction n with
    |zero=>rfl|succ n ap=>
     simp only[last];rw[ak,ap];rintro⟨h1,_⟩;simp only[gX]at h1;rw[an0]at h1;split at h1<;>simp at h1
   have aq:∀k,¬((Array.replicate R.size false).getD k false=true):=by
    intro k h1;simp only[gX]at h1;rw[an0]at h1;split at h1<;>simp at h1
   refine aaj D A E T (by rw[K];exact ok) rfl (oX:=β) (H0:=S.H) (w0:=w) (fun f w' e u v x=>?_) R.size _ β a L.drew (S.H++mK (iH R.toList)) (by simp) ?_ ?_
   ·rw[K]at u v x;exact J f w' e (u.eD _) v x
   ·have:=List.count_le_length (l:=(Array.replicate R.size false).toList) (a:=false);simp
   ·refine⟨fun i d j hi=>absurd hi (aq i),fun t=>?_,q.size,q.defers,fun b=>?_,al,fun k d j O _=>?_,fun k d j O aw z ar=>?_,ao⟩
    ·rw[N,y];exact q.val t
    ·rw[N,y,←vB]
    ·cases au:β (jy.bF R S.H.length k)with|none=>rfl|some av=>have:=g.fl _ av au;have:=jy.CI (ops:=R) (base:=S.H.length) k;omega
    ·exfalso;rw[Ae,ak (by have:=jy.CI (ops:=R) (base:=S.H.length) k;omega),ax (jy.vz j O)]at z;injection z with z;subst z;exact ar rfl
end
end
section
variable [aR][aG][nF]
open Region
variable{c:Code}{S S':ai}{E:Env}{P:Program}{R T:aJ}
structure xM(B:Nat)(S S':ai):Prop where
 ok:S'.ok→S.ok
 low:S'.low≤S.low
 len:S.H.length≤S'.H.length
 same:∀b,b<B→b<S'.low→aW b S'.H=aW b S.H
 bn:∀b k,b<B→aW b S.H=some k→k.mode=.bn→aW b S'.H=some k
 ro:∀b k,aW b S'.H=some k→k.mode=.ro→aW b S.H=some k
def xM.trans{B:Nat}{a b c:ai}(h:xM B a b)(k:xM B b c):xM B a c:=
 ⟨fun l=>h.ok (k.ok l),ga k.low h.low,ga h.len k.len,fun d e i=>(k.same d e i).trans (h.same d e (dN i k.low)),
  fun d f j e g=>k.bn d f j (h.bn d f j e g) g,fun d f e g=>h.ro d f (k.ro d f e g) g⟩
def Ext.toB{B:Nat}(h:Ext S S')(cR:B≤S.H.length):xM B S S':=
 ⟨h.ok,h.low,h.len,fun b d a=>h.same b (by omega) a,fun b k _=>h.bn b k,h.ro⟩
section
variable{C:eJ}{call:gd}{an:Nat}{dyn:Bool}{U:List Oper}
def aak(p:xK call){bF B:Nat}{m:Oper}{q:Option g8}(h:stepW C call an dyn U bF m R S=some (T,S',q))(cR:B≤S.H.length)(y:B≤bF):xM B S S':=by
 obtain⟨b,i,z,j,h|h|h⟩:=FK h
 ·obtain⟨_,_,h⟩:=h;rw[h];exact j.ext.toB cR
 ·obtain⟨_,r,v,a,_⟩:=h;obtain⟨⟨k,f,h1⟩,h2⟩:=Qb a;have s:S'.low=i.low:=by
   unfold tn at a;split at a
   ·split at a
    ·simp only[aD,aO]at a;obtain⟨_,rfl⟩:=a;rfl
    ·cases a
   ·split at a
    case h_2=>cases a
    rename_i t l d;split at a
    case h_2=>cases a
    simp only[aD,aO]at a;obtain⟨_,rfl⟩:=a;unfold tf at d
    repeat'(split at d)
    all_goals(try(cases d;done))
    simp only[aD,aO]at d;obtain⟨_,rfl⟩:=d;have h1:=Go.ay.B.fT ‹Go.ay.B.cj (N.fits _) _=some _›;have h2:=Go.ay.B.fT ‹Go.ay.B.cj (gY _ _ _) _=some _›;exact(h2.1.trans h1.1).low
   ·split at a
    case h_2=>cases a
    rename_i t l d;split at a
    case h_2=>cases a
    simp only[aD,aO]at a;obtain⟨_,rfl⟩:=a;unfold tg at d
    repeat'(split at d)
    all_goals(try(cases d;done))
    simp only[aD,aO]at d;obtain⟨_,rfl⟩:=d;rfl
   ·cases a
  refine(j.ext.toB cR).trans ⟨h2,by rw[s];exact aV _,by rw[h1,iN,lJ];exact aV _,fun b n _=>?_,fun b u n e d=>?_,fun b u e d=>?_⟩
  ·rw[h1,kQ,ak (by omega)]
  ·rw[h1,kQ,ak (by omega)];exact e
  ·rw[h1,kQ]at e;split at e
   ·injection e with e;subst e;rw[f]at d;cases d
   ·exact e
 ·obtain⟨_,r,v,l,a,w,_,_⟩:=h;have g:=Cz p a;refine(j.ext.toB cR).trans ?_;have A:B≤i.H.length:=by rw[j.H];exact cR
  subst w;refine⟨fun m=>(Jx i).1 (g.ok ((Jy i l).1 m)),?_,by rw[tJ];have:=g.len;rw[gk]at this;exact this,fun b n o=>?_,fun b k n f d=>?_,fun b k f d=>?_⟩
  ·cases dyn with|true=>exact Bm _ _|false=>exact g.low
  ·rw[tJ];have x:b<l.low:=by
    cases dyn with
    |true=>exact dN o (Bn _ _)|false=>exact o
   have:=g.same b (by rw[gk];omega) x;rw[gk]at this;exact this
  ·rw[tJ];exact g.bn b k (by rw[gk];exact f) d
  ·rw[tJ]at f;have:=g.ro b k f d;rw[gk]at this;exact this
def aal(d:xK call){B:Nat}:∀(r:List Oper) (i bF:Nat) (R T:aJ) (S S':ai) (a:List (Nat×g8)),uT C call an dyn U r i bF R S=some (T,S',a)→B≤S.H.length→B≤bF→xM B S S':=by
 intro r
 induction r with
 |nil=>
  intro i bF R T S S' a h cR b;simp only[uT,aD,aO]at h;obtain⟨_,rfl,_⟩:=h;exact(Ext.refl _).toB cR
 |cons e r f=>
  intro i bF R T S S' a h cR b;simp only[uT]at h;split at h
  ·cases h
  rename_i k l m g;split at h
  ·cases h
  rename_i n o p j;simp only[aD,aO]at h;obtain⟨rfl,rfl,rfl⟩:=h;have h1:=aak d g cR b;refine h1.trans (f _ _ _ _ _ _ _ j (ga cR h1.len) ?_);unfold Ey;cases gf e.op<;>simp<;>omega
end
def aam{C:eJ}[lV C](j:xK E.call){id:Nat}{U:List Oper}{eY:Nat→Nat}{l:Bool}{g:dK}(h:B0 C id U eY l E R S=some (g,T,S')):Ext S S':=by
 unfold B0 at h;cases l with
 |false=>
  simp only at h;split at h
  case h_2=>cases h
  rename_i m n i;simp only[aD,aO]at h;obtain⟨rfl,rfl,rfl⟩:=h;exact Jt j _ _ _ _ _ i
 |true=>
  simp only at h;split at h
  case h_2=>cases h
  rename_i m n p i;split at h
  ·cases h
  simp only[aD,aO]at h;obtain⟨rfl,rfl,rfl⟩:=h;have a:=aal j (B:=S.H.length) _ _ _ _ _ _ _ _ i (by rw[vB];simp) (aV _);refine⟨fun g=>(aag S _).1 (a.ok g),by have:=a.low;rw[aah]at this;exact this,?_,fun b d o=>?_,fun b k e f=>?_,fun b k e f=>?_⟩
  ·have:=a.len;rw[vB,fB]at this;omega
  ·rw[a.same b d o,vB,Ae,ax d]
  ·have d:=se e;exact a.bn b k d (by rw[vB,Ae,ax d];exact e) f
  ·have:=a.ro b k e f;rw[vB,Ae]at this;split at this
   ·exact this
   ·split at this
    ·injection this with this;subst this;cases f
    ·cases this
def dK.ex:dK→Exit|.normal=>.normal|.exit id=>.exit id|.ret=>.ret
section
variable{G:Nat→Option (List af)}
def dg(P:Program)(G:Nat→Option (List af))(an bE:Nat)(c:Code)(f:aJ→ai→Option (dK×aJ×ai)):Prop:=
 ∀R S d T S',f R S=some (d,T,S')→Ext S S'∧(S'.ok→∀β a w,cK an bE β R a→aM G β S.H w→∀Q:Exit→Act→World→Prop,
  (∀e w' b,cK an bE b T e→aM G b S'.H w'→bJ β S.H w b S'.H w'→Q d.ex e w')→c.en P Q a w)
def codeOk(P:Program)(bE:Nat)(dyn:Nat→Bool):Nat→Code→Bool
 |0,_=>false|n+1,c=>
  match c with
  |.region id U d=>tI P bE (dyn id) U d|.seq a b=>
   match codeOk P bE dyn n a with
   |true=>codeOk P bE dyn n b|false=>false
  |.cond _ a b=>
   match codeOk P bE dyn n a with
   |true=>codeOk P bE dyn n b|false=>false
  |.block _ b=>codeOk P bE dyn n b|.loop b=>codeOk P bE dyn n b|_=>true
def cT:Nat→Code→List Code
 |0,_=>[]|n+1,c=>
  match c with
  |.seq a b=>cT n a++cT n b|.cond _ a b=>cT n a++cT n b|.block _ b=>cT n b|.loop b=>b::cT n b|_=>[]
def Qq{Q:Exit→Act→World→Prop}(au:Nat→Act→World→Prop){n:Nat}{a:Act}{w:World}(d:au n a w)
 (round:∀n a w,au n a w→c.en P (Exit.then (fun b w'=>∃m,m<n∧au m b w') Q) a w):zF P c Q a w:=by
 induction n using Nat.strongRecOn generalizing a w with
 |_ n e=>
  refine xm (B4 (round n a w d) fun f b w' q=>?_);cases f with
  |normal=>obtain⟨m,g,bU⟩:=q;exact e m g bU
  |exit id=>exact q|goto l=>exact q|ret=>exact q|panic ch=>exact q|outgrown=>exact q
def eF(P:Program)(G:Nat→Option (List af))(an bE:Nat)(c:Code)(f:aJ→ai→Option (dK×aJ×ai)):Prop:=
 ∀R S d T S',f R S=some (d,T,S')→Ext S S'∧(S'.ok→∀β a w,cK an bE β R a→aM G β S.H w→∀Q:Exit→Act→World→Prop,
  (∀e w' b,cK an bE b T e→aM G b S'.H w'→bJ β S.H w b S'.H w'→Q d.ex e w')→zF P c Q a w)
def eF.run{G:Nat→Option (List af)}{an bE:Nat}{f:aJ→ai→Option (dK×aJ×ai)}(h:eF P G an bE c f):dg P G an bE (.loop c) f:=by
 intro R S b T S' d;obtain⟨h1,h2⟩:=h R S b T S' d;exact⟨h1,fun ok β a w e g Q i=>On (h2 ok β a w e g Q i)⟩
def xN(f g:aJ→ai→Option (dK×aJ×ai))(R:aJ)(S:ai):Option (dK×aJ×ai):=
 match f R S with
 |none=>none|some (a,R,S)=>
  match a with
  |.normal=>g R S|a=>some (a,R,S)
def eF.xN{G:Nat→Option (List af)}{an bE:Nat}{f g:aJ→ai→Option (dK×aJ×ai)}(r:dg P G an bE c f)(s:eF P G an bE c g):eF P G an bE c (xN f g):=by
 intro R S D T S' h;unfold ay.xN at h;split at h
 ·cases h
 rename_i t F H h1;obtain⟨o,p⟩:=r _ _ _ _ _ h1;cases t with
 |normal=>
  simp only at h;obtain⟨q,u⟩:=s _ _ _ _ _ h;refine⟨o.trans q,fun ok β a w b d Q e=>xm ?_⟩;refine p (q.ok ok) β a w b d _ fun j w' k l m n=>?_;exact u ok k j w' l m Q fun v x y z A B=>e v x y z A (n.trans B)
 |exit i=>
  simp only[aD,aO]at h;obtain⟨rfl,rfl,rfl⟩:=h;exact⟨o,fun ok β a w b d Q e=>xm (p ok β a w b d _ fun j w' k l m n=>e j w' k l m n)⟩
 |ret=>
  simp only[aD,aO]at h;obtain⟨rfl,rfl,rfl⟩:=h;exact⟨o,fun ok β a w b d Q e=>xm (p ok β a w b d _ fun j w' k l m n=>e j w' k l m n)⟩
variable{C:eJ}[lV C]{bE:Nat}
def FP(n:Nat)(c:Code)(E:Env)(R:aJ)(S:ai):(match jv C n c with|⟨f⟩=>f E R S)=exec C n c E R S:=rfl
def aan{e:Code}(u:(bY e).bind E.lo=none):∀(n:Nat),(∀m,m<n→dg C.P G E.an bE e (exec C m e E))→
 ∀R S p T S',exec C n (.loop e) E R S=some (p,T,S')→Ext S S'∧(S'.ok→∀β a w,cK E.an bE β R a→aM G β S.H w→∀Q:Exit→Act→World→Prop,
  (∀d w' b,cK E.an bE b T d→aM G b S'.H w'→bJ β S.H w b S'.H w'→Q p.ex d w')→zF C.P e Q a w):=by
 intro n
 induction n with
 |zero=>intro _ R S p T S' h;simp[exec,jv]at h|succ n v=>
  intro s R S p T S' h;simp only[exec,jv,Iv,FP,u]at h;split at h
  ·cases h
  rename_i x K L h1;obtain⟨q,r⟩:=s n (N8 n) _ _ _ _ _ h1;cases x with
  |normal=>
   simp only at h;obtain⟨t,y⟩:=v (fun m z=>s m (Nat.lt_succ_of_lt z)) _ _ _ _ _ h;refine⟨q.trans t,fun ok β a w f g Q j=>xm ?_⟩;refine r (t.ok ok) β a w f g _ fun d w' b k l o=>?_;exact y ok b d w' k l Q fun A B D F I J=>j A B D F I (o.trans J)
  |exit i=>
   simp only[aD,aO]at h;obtain⟨rfl,rfl,rfl⟩:=h;exact⟨q,fun ok β a w f g Q j=>xm (r ok β a w f g _ fun d w' b k l o=>j d w' b k l o)⟩
  |ret=>
   simp only[aD,aO]at h;obtain⟨rfl,rfl,rfl⟩:=h;exact⟨q,fun ok β a w f g Q j=>xm (r ok β a w f g _ fun d w' b k l o=>j d w' b k l o)⟩
def FQ(aa:C.dA=G)(M:fV C.P G E.call)(ab:oW C.P C.gx)(ad:C.P.follows .mixedOrders=true):
 ∀(n m:Nat) (c:Code),codeOk C.P bE E.dyn m c=true→(∀k,∀b∈cT k c,∀r,(bY b).bind E.lo=some r→dg C.P G E.an bE (.loop b) r)→dg C.P G E.an bE c (exec C n c E):=by
 intro n
 induction n using Nat.strongRecOn with
 |_ aj ae=>
  intro m c s D R S ag T S' h;cases aj with
  |zero=>simp[exec,jv]at h|succ n=>
  have I:=ae n (N8 n);cases m with
  |zero=>simp[codeOk]at s|succ m=>
  cases c with
  |skip=>
   simp only[exec,jv,aD,aO]at h;obtain⟨rfl,rfl,rfl⟩:=h;exact⟨Ext.refl _,fun ok β a w d e Q f=>WL (f a w β d e (bJ.refl ..))⟩
  |exit id=>
   simp only[exec,jv,aD,aO]at h;obtain⟨rfl,rfl,rfl⟩:=h;exact⟨Ext.refl _,fun ok β a w d e Q f=>WN (f a w β d e (bJ.refl ..))⟩
  |ret=>
   simp only[exec,jv,aD,aO]at h;obtain⟨rfl,rfl,rfl⟩:=h;exact⟨Ext.refl _,fun ok β a w d e Q f=>WM (f a w β d e (bJ.refl ..))⟩
  |region id U ay=>
   simp only[exec,jv]at h;simp only[codeOk]at s;refine⟨aam M.ext h,fun ok β a w d e Q f=>?_⟩;obtain⟨rfl,_⟩:=Qp aa M ab ad rfl rfl s h ok d e (Q:=fun _ _ _=>True) (fun _ _ _ _ _ _=>trivial);exact(Qp aa M ab ad rfl rfl s h ok d e (Q:=Q) f).2
  |seq A N=>
   simp only[exec,jv,Oi,FP]at h;simp only[codeOk]at s;split at s
   case h_2=>cases s
   rename_i J;have K:=I m A J (fun k b u r x=>D (k+1) b (by simp[cT,u]) r x);have O:=I m N s (fun k b u r x=>D (k+1) b (by simp[cT,u]) r x);split at h
   ·cases h
   rename_i V ak W h1;obtain⟨y,z⟩:=K _ _ _ _ _ h1;cases V with
   |normal=>
    simp only at h;obtain⟨L,X⟩:=O _ _ _ _ _ h;refine⟨y.trans L,fun ok β a w d e Q f=>EE ?_⟩;refine z (L.ok ok) β a w d e _ fun g w' o p q l=>?_;exact X ok o g w' p q Q fun al am ao ap aq ar=>f al am ao ap aq (l.trans ar)
   |exit i=>
    simp only[aD,aO]at h;obtain⟨rfl,rfl,rfl⟩:=h;refine⟨y,fun ok β a w d e Q f=>EE ?_⟩;exact z ok β a w d e _ fun g w' o p q l=>f g w' o p q l
   |ret=>
    simp only[aD,aO]at h;obtain⟨rfl,rfl,rfl⟩:=h;refine⟨y,fun ok β a w d e Q f=>EE ?_⟩;exact z ok β a w d e _ fun g w' o p q l=>f g w' o p q l
  |cond t A N=>
   simp only[exec,jv,Oj,FP]at h;simp only[codeOk]at s;split at s
   case h_2=>cases s
   rename_i J;have K:=I m A J (fun k b u r x=>D (k+1) b (by simp[cT,u]) r x);have O:=I m N s (fun k b u r x=>D (k+1) b (by simp[cT,u]) r x);split at h
   case h_2=>cases h
   rename_i au av;have ah:∀β a,cK E.an bE β R a→a.eval t=.bool au.v:=by
    intro β a d;have:=d.ev t;rw[av]at this;exact this.tC
   split at h
   ·rename_i W Y;obtain⟨F,Z⟩:=B.oO Y;obtain⟨y,z⟩:=K _ _ _ _ _ h;refine⟨F.ext.trans y,fun ok β a w d e Q f=>?_⟩;refine WO (by rw[ah β a d,Z (y.ok ok)]) ?_;refine z ok β a w d (by rw[F.H];exact e) Q fun g w' o p q l=>f g w' o p q (by rw[F.H]at l;exact l)
   ·rename_i W Y;obtain⟨F,Z⟩:=B.oO Y;obtain⟨y,z⟩:=O _ _ _ _ _ h;refine⟨F.ext.trans y,fun ok β a w d e Q f=>?_⟩;refine WP (by rw[ah β a d,Z (y.ok ok)]) ?_;refine z ok β a w d (by rw[F.H];exact e) Q fun g w' o p q l=>f g w' o p q (by rw[F.H]at l;exact l)
   ·cases h
  |block id A=>
   simp only[exec,jv,Ok,FP]at h;simp only[codeOk]at s;have K:=I m A s (fun k b u r x=>D (k+1) b (by simp[cT,u]) r x);split at h
   ·cases h
   rename_i V ak W h1;obtain⟨y,z⟩:=K _ _ _ _ _ h1;cases V with
   |exit i=>
    simp only at h;split at h
    ·rename_i u;have hi:i=id:=by simpa using u
     simp only[aD,aO]at h;obtain⟨rfl,rfl,rfl⟩:=h;refine⟨y,fun ok β a w d e Q f=>EF (z ok β a w d e _ fun g w' o p q l=>?_)⟩
     show Exit.inBlock id Q (.exit i) g w';simp only[Exit.inBlock,hi,g6];exact f g w' o p q l
    ·rename_i u;have hi:i≠id:=by intro aw;subst aw;simp at u
     simp only[aD,aO]at h;obtain⟨rfl,rfl,rfl⟩:=h;refine⟨y,fun ok β a w d e Q f=>EF (z ok β a w d e _ fun g w' o p q l=>?_)⟩
     show Exit.inBlock id Q (.exit i) g w';simp only[Exit.inBlock,hi,ee];exact f g w' o p q l
   |normal=>
    simp only[aD,aO]at h;obtain⟨rfl,rfl,rfl⟩:=h;exact⟨y,fun ok β a w d e Q f=>EF (z ok β a w d e _ fun g w' o p q l=>f g w' o p q l)⟩
   |ret=>
    simp only[aD,aO]at h;obtain⟨rfl,rfl,rfl⟩:=h;exact⟨y,fun ok β a w d e Q f=>EF (z ok β a w d e _ fun g w' o p q l=>f g w' o p q l)⟩
  |loop A=>
   cases x:(bY A).bind E.lo with
   |some r=>
    simp only[exec,jv,Iv,x]at h;exact D 1 A (by simp[cT]) r x R S ag T S' h
   |none=>
    have J:codeOk C.P bE E.dyn m A=true:=by simpa only[codeOk]using s
    obtain⟨L,X⟩:=aan (G:=G) (bE:=bE) x (n+1) (fun k ax=>ae k ax m A J (fun j b u r x=>D (j+1) b (by simp[cT,u]) r x)) R S ag T S' h;exact⟨L,fun ok β a w d e Q f=>On (X ok β a w d e Q f)⟩
  |_=>simp[exec,jv]at h
end
end
section
variable [aR][aG]
open Region
variable{t:TypeId}{a R:af}{S Q:ai}
section
variable{P:Program}{G:Nat→Option (List af)}{β:aE}{w:World}
def aao{y:Value}(h:oH P G t a S=some (R,Q))(z:aC β a y)(A:aM G β S.H w):
 Q.ok→∃p v,y=.pointer (some p)∧aC β R v∧∀d,eK w d→(loadVar t p).aI P d=.ok v d:=by
 unfold oH at h;cases f:nq P t with
 |none=>simp[f]at h|some b=>
  cases b with
  |true=>
   simp only[f]at h;cases m:eg P t with
   |none=>simp[m]at h|some n=>
    simp only[m]at h;cases o:rP G a n S with
    |none=>simp[o]at h|some r=>
     obtain⟨l,J⟩:=r;simp only[o,aD,aO]at h;obtain⟨rfl,rfl⟩:=h;intro ok;obtain⟨p,vs,rfl,B,D,i,e⟩:=(Ph A z o).2 ok;have g:vs.length=n:=by rw[←B.1,D]
     have:=Fo P w p vs i (by rw[g];exact e);rw[g]at this;refine⟨p,.agg ⟨vs⟩,rfl,aC.zW B,fun d s=>?_⟩;have:=Fo P d p vs (fun j v k=>by
      have h1:=i j v k;have u:=e j (by rw[←g];exact(dW.1 k).1);generalize p.add j=q at h1 u⊢;obtain⟨c,E,x⟩:=q;have:x=none:=u.1;subst this;exact s.cell u h1) (by rw[g];exact e)
     rw[g]at this;simp[loadVar,vq f d,hJ m d,this]
  |false=>
   simp only[f]at h;obtain⟨K,F⟩:=Pg A z h;intro ok;obtain⟨p,v,rfl,i,k,e⟩:=F ok;refine⟨p,v,rfl,k,fun d s=>?_⟩;have I:d.cell? p=some v:=by
    obtain⟨c,E,x⟩:=p;have:x=none:=e.1;subst this;exact s.cell e i
   simp[loadVar,vq f d,B2 P d I e]
def aap(h:oH P G t a S=some (R,Q)):Pure S Q:=
 vv (f:=oH P G t a) (fun T cs c _=>PU P G t a (fun b _=>by rw[c])) h
def CL(b:Array Value):ResultVar→Sem Value|.tmp t=>pure (b.getD t undef)|.cell a t=>do loadVar t (←asAddr (b.getD a undef))
def JE(fn:Func)(b:Array Value):results fn b=(fn.results.mapM (CL b) >>= fun vs=>pure (if h:vs.size=1 then vs[0]else .tuple vs)):=by
 unfold results;congr 1
end
section
variable{C:eJ}[lV C]{G:Nat→Option (List af)}
def Qr(q:C.dA=G){an bE:Nat}{m:aJ}:∀(c:List ResultVar) (S Q:ai) (vs:List af),xk C an m S c=some (vs,Q)→
 Pure S Q∧(Q.ok→∀β a w,cK an bE β m a→aM G β S.H w→∃us,aK β vs us∧∀b,eK w b→(c.mapM (CL a.tmps)).aI C.P b=.ok us b):=by
 intro c
 induction c with
 |nil=>
  intro S Q vs h;simp only[xk,aD,aO]at h;obtain⟨rfl,rfl⟩:=h;exact⟨Pure.refl _,fun _ β a w _ _=>⟨[],aK.nil β,fun b _=>by simp[Sem.aI,pure]⟩⟩
 |cons r c n=>
  intro S Q vs h;simp only[xk]at h;cases r with
  |tmp t=>
   dsimp only at h;split at h
   ·cases h
   rename_i us s i;simp only[aD,aO]at h;obtain⟨rfl,rfl⟩:=h;obtain⟨e,j⟩:=n _ _ _ i;refine⟨e,fun ok β a w d f=>?_⟩;obtain⟨k,h2,h1⟩:=j ok β a w d f;exact⟨_::k,aK.cons (d.val t) h2,fun b g=>by simp[We,CL,h1 b g]⟩
  |cell ad t=>
   dsimp only at h;split at h
   ·cases h
   rename_i v A l;split at h
   ·cases h
   rename_i us s i;simp only[aD,aO]at h;obtain⟨rfl,rfl⟩:=h;obtain⟨e,j⟩:=n _ _ _ i;have o:=aap l;refine⟨o.trans e,fun ok β a w d f=>?_⟩;obtain⟨k,h2,h1⟩:=j ok β a w d (by rw[o.H];exact f);rw[q]at l;obtain⟨p,u,x,y,z⟩:=aao l (d.val ad) f (e.ok ok);exact⟨u::k,aK.cons y h2,fun b g=>by simp[We,CL,x,asAddr,z b g,h1 b g]⟩
def Qs{β:aE}{vs:List af}{us:List Value}(h:aK β vs us):aC β (zA vs) (if h:(⟨us⟩:Array Value).size=1 then(⟨us⟩:Array Value)[0]else .tuple ⟨us⟩):=by
 have b:=h.1;unfold zA;split
 ·rename_i v;obtain⟨u,e,rfl,h1,h2⟩:=h.cons_inv;have:=h2.r7;subst this;simpa using h1
 ·rename_i c;have:¬us.length=1:=by
   intro d;rw[d]at b
   match vs,b with
   |[v],_=>exact c v rfl
  rw[dif_neg (by simpa using this)];exact aC.IX h
def qQ(C:eJ)(f:FuncId):Bool:=
 match C.P.funcs[f]? with
 |none=>false|some fn=>
  match fn.body with
  |none=>false|some c=>
   match fn.name== "runtime.NumGoroutine" with
   |true=>false|false=>codeOk C.P fn.ntmps (C.dyn f) 100000 c
def c6(C:eJ)(G:Nat→Option (List af)):Prop:=∀f fn c,C.P.funcs[f]? =some fn→fn.body=some c→∀k,∀b∈cT k c,∀d,(bY b).bind (C.loop f)=some d→dg C.P G (C.an f) fn.ntmps (.loop b) d
def Qt(B:C.dA=G){call:gd}(O:fV C.P G call)(T:oW C.P C.gx)(U:C.P.follows .mixedOrders=true)(V:∀f,C.scope f=true→qQ C f=true)(W:∀f,C.scope f=true→aG.plain f)(X:c6 C G)(x:Nat):
 fV C.P G (B1 C x call):=by
 intro f args S v Q h;unfold B1 at h;split at h
 ·cases h
 rename_i fn p;split at h
 ·cases h
 rename_i c q;split at h
 ·cases h
 rename_i D;simp only[dI]at D;obtain⟨F,Y⟩:=D;have l:=V f F;unfold qQ at l;simp only[p,q]at l;split at l
 ·cases l
 rename_i Z;have aa:=FQ (C:=C) (G:=G) (bE:=fn.ntmps) B (E:=⟨call,C.an f,C.eD f,C.dyn f,C.loop f⟩) O T U x 100000 c l (fun k b I ab ad=>X f fn c p q k b I ab ad);have fin:∀(r:dK) e g,(r=.normal∨r=.ret)→exec C x c ⟨call,C.an f,C.eD f,C.dyn f,C.loop f⟩ ⟨args++List.replicate (C.an f-args.length) .aa,[]⟩ S=some (r,e,g)→
  (match xk C (C.an f) e g fn.results.toList with|some (vs,S)=>some (zA vs,S)|none=>none)=some (v,Q)→
  Ext S Q∧(Q.ok→∀β w vs,aK β args vs→aM G β S.H w→(∃fn,C.P.funcs[f]? =some fn∧(fn.name== "runtime.NumGoroutine")=false∧fn.body.isSome=true)∧
   j6 C.P f ⟨vs⟩ w fun n w'=>∃u d,n=.returned u∧aC d v u∧aM G d Q.H w'∧bJ β S.H w d Q.H w'):=by
  intro r e g ae h1 h2;obtain⟨ag,ah⟩:=aa _ _ _ _ _ h1;split at h2
  case h_2=>cases h2
  rename_i vs J aj;simp only[aD,aO]at h2;obtain⟨rfl,rfl⟩:=h2;obtain⟨s,ak⟩:=Qr (bE:=fn.ntmps) B _ _ _ _ aj;refine⟨ag.trans s.ext,fun ok β w us y al=>⟨⟨fn,p,Z,by simp[q]⟩,Ow (W f F) p q ?_⟩⟩;have au:us.length≤fn.ntmps:=by rw[←y.1];simpa using Y
  refine ah (s.ok ok) β _ w ⟨fun t=>?_,?_,rfl⟩ al _ fun z w' d K L am=>?_
  ·simp only[aJ.get];cases I:Nat.blt t (C.an f)with
   |false=>exact .aa _|true=>
    simp only[cg];rcases cu t args.length with i|i
    ·have M:t<us.length:=by rw[←y.1];exact i
     rw[gV i,bX i];simp only;have n:((⟨us⟩:Array Value)++Array.replicate (fn.ntmps-(⟨us⟩:Array Value).size) undef).getD t undef=us[t]:=by
      simp[gX,N0,M]
     rw[n];exact y.2 t _ _ (bX i) (bX M)
    ·rw[gL i];split
     ·rename_i R j;rw[mz]at j;split at j
      ·injection j with j;subst j;exact .aa _
      ·cases j
     ·exact .aa _
  ·simp;omega
  ·obtain⟨A,ao,ap⟩:=ak ok d z w' K L;have aq:∀o,eK w' o→(results fn z.tmps).aI C.P o=.ok (if h:(⟨A⟩:Array Value).size=1 then(⟨A⟩:Array Value)[0]else .tuple ⟨A⟩) o:=by
    intro o ar;rw[JE,N4 (m:=Sem)];simp[ap o ar]
   have N:Ov C.P fn (fun n w'=>∃u d,n=.returned u∧aC d (zA vs) u∧aM G d J.H w'∧bJ β S.H w d J.H w') .normal z w':=
    ⟨K.defers,_,aq,_,d,rfl,Qs ao,by rw[s.H];exact L,by rw[s.H];exact am⟩
   rcases ae with rfl|rfl
   ·exact N
   ·exact N
 split at h
 ·rename_i e g h1;exact fin .normal e g (.inl rfl) h1 h
 ·rename_i e g h1;exact fin .ret e g (.inr rfl) h1 h
 ·cases h
end
end
section
variable [aR][aG]
section
variable{C:eJ}[lV C]{G:Nat→Option (List af)}
def aaq(C:eJ)(G:Nat→Option (List af)):Prop:=∀f c,C.spec f=some c→∀args S v a,BM c args S=some (v,a)→Ext S a∧(a.ok→∀β w vs,aK β args vs→aM G β S.H w→
 (∃fn,C.P.funcs[f]? =some fn∧(fn.name== "runtime.NumGoroutine")=false∧fn.body.isSome=true)∧
 j6 C.P f ⟨vs⟩ w fun d w'=>∃u b,d=.returned u∧aC b v u∧aM G b a.H w'∧bJ β S.H w b a.H w')
def FR(c:C.dA=G)(e:oW C.P C.gx)(g:C.P.follows .mixedOrders=true)(i:∀f,C.scope f=true→qQ C f=true)(j:∀f,C.scope f=true→aG.plain f)(k:c6 C G)(l:aaq C G)(b:Nat):
 ∀d,fV C.P G (uV C d b):=by
 intro d
 induction d with
 |zero=>intro f args S v a h;simp[uV]at h|succ d m=>
  intro f args S v a h;simp only[uV]at h;split at h
  ·rename_i n o;exact l f n o args S v a h
  ·exact Qt c m e g i j k b f args S v a h
def c6.none(h:∀f r,C.loop f r=none):c6 C G:=fun f fn c _ _ k b _ e a=>by
 cases d:bY b with
 |none=>rw[d]at a;cases a
 |some r=>rw[d]at a;simp[h]at a
end
end
section
variable [aR][aG]
variable{f:Nat→Nat}{d S:Data}{b:Nat}{P:af}{v:Value}{R:List af}{vs:List Value}{c:Nat}{Q:Loc}
def Qu{b:Nat}:∀{rs:List Nat} {i k:Nat},qD b rs i=some k→i≤k∧rs[k-i]? =some b
 |[],_,_,h=>by simp[qD]at h|P::r,i,k,h=>by
  simp only[qD]at h;split at h
  ·rename_i a;have e:P=b:=by simpa using a
   injection h with h;subst h;subst e;simp
  ·obtain⟨h1,h2⟩:=Qu h;refine⟨by omega,?_⟩;have:k-i=(k-(i+1))+1:=by omega
   rw[this];simpa using h2
def JF{rs:List Nat}{k:Nat}(h:qD b rs 0=some k):rs[k]? =some b:=by
 have:=(Qu h).2;simpa using this
def JG:∀{l:List Nat},BL l=true→l.Nodup
 |[],_=>List.nodup_nil|P::r,h=>by
  simp only[BL]at h;split at h
  ·cases h
  ·rename_i a;rw[Wn];refine⟨fun e=>?_,JG h⟩;rw[(Ab P r).2 e]at a;cases a
def vC(f:Nat→Nat):∀l:List af,lN f l=l.map (oJ f)|[]=>by simp[lN]|v::r=>by simp[lN,vC f r]
def toL_get{rs:List Nat}:∀{l a:List af},toL rs l=some a→a.length=l.length∧∀(i:Nat) P e,l[i]? =some P→a[i]? =some e→toV rs P=some e
 |[],a,h=>by simp[toL]at h;subst h;exact⟨rfl,fun i P e g=>by simp at g⟩|v::r,a,h=>by
  simp only[toL]at h;split at h
  ·rename_i v' k;split at h
   ·rename_i n m;injection h with h;subst h;obtain⟨h1,h2⟩:=toL_get m;refine⟨by simp[h1],fun i P e g j=>?_⟩;cases i with
    |zero=>simp at g j;subst g j;exact k|succ i=>exact h2 i P e (by simpa using g) (by simpa using j)
   ·cases h
  ·cases h
section
variable{β T U:aE}{rs:List Nat}
def inner(β:aE)(rs:List Nat):aE:=fun i=>match rs[i]? with|some b=>β b|none=>none
def lz{i:Nat}(h:rs[i]? =some b):inner β rs i=β b:=by simp[inner,h]
def toV_rel(m:aC β P v):∀{j:af},toV rs P=some j→aC (inner β rs) j v:=by
 induction m with
 |aa v=>intro j h;simp only[toV,aD]at h;subst h;exact .aa v|bool b=>intro j h;simp only[toV,aD]at h;subst h;exact .bool b|str z=>intro j h;simp only[toV,aD]at h;subst h;exact .str z|mB=>intro j h;simp only[toV,aD]at h;subst h;exact .mB|cD=>intro j h;simp only[toV,aD]at h;subst h;exact .cD|fD=>intro j h;simp only[toV,aD]at h;subst h;exact .fD|mC=>intro j h;simp only[toV,aD]at h;subst h;exact .mC|exact u=>intro j h;simp only[toV,aD]at h;subst h;exact .exact u|num n=>intro j h;simp only[toV,aD]at h;subst h;exact .num n|ptr b o Q B=>
  intro j h;simp only[toV,toR]at h;cases hi:qD b rs 0 with
  |none=>simp[hi]at h|some i=>
   simp only[hi,aD]at h;subst h;exact .ptr i o Q (by rw[lz (JF hi)];exact B)
 |eC g o=>
  intro j h;simp only[toV,toR,aD]at h;subst h;exact .eC g o
 |gs g o l s p=>
  intro j h;simp only[toV,toR,aD]at h;subst h;exact .gs g o l s p
 |sm b l z a s h1 h3=>
  intro j h;simp only[toV,toR]at h;cases hi:qD b rs 0 with
  |none=>simp[hi]at h|some i=>
   simp only[hi,aD]at h;subst h;refine .sm i l z a s h1 ?_;rcases h3 with h3|⟨Q,A,h3⟩
   ·exact .inl h3
   ·exact .inr ⟨Q,by rw[lz (JF hi)];exact A,h3⟩
 |sl b o l C a s h1 h2 h3=>
  intro j h;simp only[toV,toR]at h;cases hi:qD b rs 0 with
  |none=>simp[hi]at h|some i=>
   simp only[hi,aD]at h;subst h;refine .sl i o l C a s h1 h2 ?_;rcases h3 with h3|⟨Q,A,h3⟩
   ·exact .inl h3
   ·exact .inr ⟨Q,by rw[lz (JF hi)];exact A,h3⟩
 |agg R vs p h q=>
  intro j e;simp only[toV]at e;split at e
  ·rename_i x y;injection e with e;subst e;obtain⟨h1,h2⟩:=toL_get y;refine .agg x vs (h1.trans p) fun i r v k m=>?_;have hi:i<R.length:=by
    rcases cu i R.length with h|h
    ·exact h
    ·rw[dz (by omega)]at k;cases k
   exact q i _ v (bX hi) m (h2 i _ r (bX hi) k)
  ·cases e
 |bA R vs p h q=>
  intro j e;simp only[toV]at e;split at e
  ·rename_i x y;injection e with e;subst e;obtain⟨h1,h2⟩:=toL_get y;refine .bA x vs (h1.trans p) fun i r v k m=>?_;have hi:i<R.length:=by
    rcases cu i R.length with h|h
    ·exact h
    ·rw[dz (by omega)]at k;cases k
   exact q i _ v (bX hi) m (h2 i _ r (bX hi) k)
  ·cases e
 |iq t P v h q=>
  intro j e;simp only[toV,toL]at e;cases k:toV rs P with
  |none=>simp[k]at e|some r=>
   simp only[k,aD]at e;subst e;exact .iq t r v (q k)
 |fn f n R first captured D p h q=>
  intro j e;simp only[toV]at e;split at e
  ·rename_i x y;injection e with e;subst e;obtain⟨h1,h2⟩:=toL_get y;refine .fn f n x first captured D (h1.trans p) fun i r v k m=>?_
   have hi:i<R.length:=by
    rcases cu i R.length with h|h
    ·exact h
    ·rw[dz (by omega)]at k;cases k
   exact q i _ v (bX hi) m (h2 i _ r (bX hi) k)
  ·cases e
def toL_rel{e:List af}(h:aK β R vs)(g:toL rs R=some e):aK (inner β rs) e vs:=by
 obtain⟨h1,h2⟩:=toL_get g;refine⟨h1.trans h.1,fun i j v a k=>?_⟩;have hi:i<R.length:=by
  rcases cu i R.length with h|h
  ·exact h
  ·rw[dz (by omega)]at a;cases a
 exact toV_rel (h.2 i _ v (bX hi) k) (h2 i _ j (bX hi) a)
def vD(r:∀i Q,T i=some Q→U (f i)=some Q)(j:aC T P v):aC U (oJ f P) v:=by
 induction j with
 |aa v=>exact .aa v|bool b=>exact .bool b|str s=>exact .str s|mB=>exact .mB|cD=>exact .cD|fD=>exact .fD|mC=>exact .mC|exact u=>exact .exact u|num n=>exact .num n|ptr b k Q z=>exact .ptr (f b) k Q (r b Q z)|eC g k=>exact .eC g k|gs g k l p m=>exact .gs g k l p m|sm b l s a p h1 h3=>
  refine .sm (f b) l s a p h1 ?_;rcases h3 with h3|⟨Q,x,h3⟩
  ·exact .inl h3
  ·exact .inr ⟨Q,r b Q x,h3⟩
 |sl b k l A a p h1 h2 h3=>
  refine .sl (f b) k l A a p h1 h2 ?_;rcases h3 with h3|⟨Q,x,h3⟩
  ·exact .inl h3
  ·exact .inr ⟨Q,r b Q x,h3⟩
 |agg R vs m h o=>
  simp only[oJ,vC];refine .agg _ vs (by simpa using m) fun i y v e j=>?_;rw[ef,bT]at e;obtain⟨P,q,rfl⟩:=e;exact o i P v q j
 |bA R vs m h o=>
  simp only[oJ,vC];refine .bA _ vs (by simpa using m) fun i y v e j=>?_;rw[ef,bT]at e;obtain⟨P,q,rfl⟩:=e;exact o i P v q j
 |iq t P v h o=>simp only[oJ,lN];exact .iq t _ v o|fn g n R first captured B m h o=>
  simp only[oJ,vC];refine .fn g n _ first captured B (by simpa using m) fun i y v e j=>?_
  rw[ef,bT]at e;obtain⟨P,q,rfl⟩:=e;exact o i P v q j
def Qv(e:∀i Q,T i=some Q→U (f i)=some Q)(h:aK T R vs):aK U (lN f R) vs:=by
 rw[vC];refine⟨by simpa using h.1,fun i k v a g=>?_⟩;rw[ef,bT]at a;obtain⟨P,j,rfl⟩:=a;exact vD e (h.2 i P v j g)
def toL_pre{rs:List Nat}{t a:List af}(h:toL rs t=some a):∀l:List Value,toL rs (l.map af.exact++t)=some (l.map af.exact++a)
 |[]=>h|v::l=>by
  show toL rs (af.exact v::(l.map af.exact++t))=some (af.exact v::(l.map af.exact++a));rw[toL,toL_pre h l];rfl
def Qw(f:Nat→Nat)(t:List af):∀l:List Value,lN f (l.map af.exact++t)=l.map af.exact++lN f t
 |[]=>rfl|v::l=>by
  show lN f (af.exact v::(l.map af.exact++t))=af.exact v::(l.map af.exact++lN f t);rw[lN,Qw f t l];rfl
def toD_spec(h:toD rs d=some S):S.len=d.len∧(∀i g,S.at i=some g→∃P,d.at i=some P∧toV rs P=some g)∧(∀{vs:List Value},aK β d.list vs→aK (inner β rs) S.list vs):=by
 cases d with
 |gen l=>
  simp only[toD]at h;split at h
  ·rename_i y o;injection h with h;subst h;obtain⟨h1,h2⟩:=toL_get o;refine⟨h1,fun i g a=>?_,fun j=>toL_rel j o⟩;have a:y[i]? =some g:=a;have hi:i<l.length:=by
    rcases cu i l.length with h|h
    ·exact h
    ·rw[dz (by omega)]at a;cases a
   exact⟨l[i],bX hi,h2 i _ g (bX hi) a⟩
  ·cases h
 |e9 u t=>
  simp only[toD]at h;split at h
  ·rename_i A B;injection h with h;subst h;have o:=toL_pre B u;obtain⟨h1,h2⟩:=toL_get o;refine⟨by simpa[Data.len]using h1,fun i g a=>?_,fun j=>toL_rel j o⟩;have a:(u.map af.exact++A)[i]? =some g:=a;have hi:i<(u.map af.exact++t).length:=by
    rcases cu i (u.map af.exact++t).length with h|h
    ·exact h
    ·rw[dz (by omega)]at a;cases a
   exact⟨(u.map af.exact++t)[i],bX hi,h2 i _ g (bX hi) a⟩
  ·cases h
 |aj l=>
  simp only[toD,aD]at h;subst h;refine⟨rfl,fun i g a=>⟨g,a,?_⟩,fun j=>⟨j.1,fun i k v e m=>?_⟩⟩
  ·simp only[Data.at,bT]at a;obtain⟨k,_,rfl⟩:=a;rfl
  ·have:=j.2 i k v e m;simp only[Data.list,ef,bT]at e;obtain⟨z,_,rfl⟩:=e;exact toV_rel (rs:=rs) this rfl
 |eX l=>
  simp only[toD,aD]at h;subst h;refine⟨rfl,fun i g a=>⟨g,a,?_⟩,fun j=>⟨j.1,fun i k v e m=>?_⟩⟩
  ·simp only[Data.at,bT]at a;obtain⟨k,_,rfl⟩:=a;rfl
  ·have:=j.2 i k v e m;simp only[Data.list,ef,bT]at e;obtain⟨z,_,rfl⟩:=e;exact toV_rel (rs:=rs) this rfl
 |bw l=>
  simp only[toD,aD]at h;subst h;refine⟨rfl,fun i g a=>⟨g,a,?_⟩,fun j=>⟨j.1,fun i k v e m=>?_⟩⟩
  ·simp only[Data.at,bT]at a;obtain⟨k,_,rfl⟩:=a;rfl
  ·have:=j.2 i k v e m;simp only[Data.list,ef,bT]at e;obtain⟨z,_,rfl⟩:=e;exact toV_rel (rs:=rs) this rfl
 |lim f l=>
  simp only[toD,aD]at h;subst h;refine⟨rfl,fun i g a=>⟨g,a,?_⟩,fun j=>⟨j.1,fun i k v e m=>?_⟩⟩
  ·simp only[Data.at]at a;split at a
   case isFalse=>cases a
   simp only[bT]at a;obtain⟨k,_,rfl⟩:=a;rfl
  ·have:=j.2 i k v e m;simp only[Data.list,ef,bT]at e;obtain⟨z,_,rfl⟩:=e;exact toV_rel (rs:=rs) this rfl
 |spot n q P=>
  simp only[toD]at h;split at h
  case h_2=>cases h
  rename_i g s;injection h with h;subst h;refine⟨rfl,fun i k e=>?_,fun j=>⟨by simpa[Data.list]using j.1,fun i k v e m=>?_⟩⟩
  ·have p:i<n:=by
    have:=(dW.1 (show((List.replicate n (af.atom .aa)).set q g)[i]? =some k from e)).1;simpa using this
   by_cases r:i=q
   ·subst r;have x:((List.replicate n (af.atom .aa)).set i g)[i]? =some k:=e;simp[p]at x;subst x;exact⟨P,by simp[Data.at,p],s⟩
   ·rcases IZ e with rfl|⟨rfl,_⟩
    ·exact⟨.atom .aa,by simp[Data.at,p,wW,fC r],rfl⟩
    ·exact absurd rfl r
  ·have p:i<n:=by
    have:=(dW.1 (show((List.replicate n (af.atom .aa)).set q g)[i]? =some k from e)).1;simpa using this
   rcases IZ e with rfl|⟨rfl,rfl⟩
   ·exact .aa v
   ·exact toV_rel (j.2 i P v (by simp[Data.list,p]) m) s
def Qx(j:∀i Q,T i=some Q→U (f i)=some Q)(d:Data):(d.iF f).len=d.len∧∀{vs:List Value},aK T d.list vs→aK U (d.iF f).list vs:=by
 cases d with
 |gen l=>exact⟨by simp[Data.iF,Data.len,vC],fun a=>Qv j a⟩|e9 l t=>
  refine⟨by simp[Data.iF,Data.len,vC],fun a=>?_⟩;have:=Qv j a;simp only[Data.list]at this;rw[Qw]at this;exact this
 |aj l=>
  refine⟨rfl,fun a=>⟨a.1,fun i g v e h=>?_⟩⟩;have:=a.2 i g v e h;simp only[Data.iF,Data.list,ef,bT]at e;obtain⟨z,_,rfl⟩:=e;exact vD j this
 |eX l=>
  refine⟨rfl,fun a=>⟨a.1,fun i g v e h=>?_⟩⟩;have:=a.2 i g v e h;simp only[Data.iF,Data.list,ef,bT]at e;obtain⟨z,_,rfl⟩:=e;exact vD j this
 |bw l=>
  refine⟨rfl,fun a=>⟨a.1,fun i g v e h=>?_⟩⟩;have:=a.2 i g v e h;simp only[Data.iF,Data.list,ef,bT]at e;obtain⟨z,_,rfl⟩:=e;exact vD j this
 |lim _ l=>
  refine⟨rfl,fun a=>⟨a.1,fun i g v e h=>?_⟩⟩;have:=a.2 i g v e h;simp only[Data.iF,Data.list,ef,bT]at e;obtain⟨z,_,rfl⟩:=e;exact vD j this
 |spot n k P=>
  refine⟨rfl,fun a=>⟨by simpa[Data.iF,Data.list]using a.1,fun i g v e h=>?_⟩⟩;have m:i<n:=by
   have:=(dW.1 (show((List.replicate n (af.atom .aa)).set k (oJ f P))[i]? =some g from e)).1;simpa using this
  rcases IZ e with rfl|⟨rfl,rfl⟩
  ·exact .aa v
  ·exact vD j (a.2 i P v (by simp[Data.list,m]) h)
def toD_hold(h:toD rs d=some S)(a:fI d c):fI S c:=by
 cases d<;>simp only[toD]at h
 case lim f l=>injection h with h;subst h;exact a
 all_goals first|(injection h with h;subst h;exact a)|(split at h;·(injection h with h;subst h;exact a)
                                                       ·cases h)
def aar(a:fI d c):fI (d.iF f) c:=by cases d<;>exact a
variable{w:World}
def hH.to{m:Mode}(h:hH β ⟨d,m⟩ Q w)(j:toD rs d=some S):hH (inner β rs) ⟨S,m⟩ Q w:=by
 obtain⟨h1,h2,h3⟩:=toD_spec (β:=β) j;cases m with
 |bn=>trivial|ro=>
  obtain⟨a,e,g⟩:=h;refine⟨a,by rw[h1];exact e,fun i k l=>?_⟩;obtain⟨P,n,o⟩:=h2 i k l;obtain⟨v,p,q,r⟩:=g i P n;exact⟨v,p,toV_rel q o,r⟩
 |own=>
  obtain⟨a,s,vs,t,bx,e,u,g,bf,x⟩:=h;exact⟨a,toD_hold j s,vs,t,bx,e,u,g,by rw[h1];exact bf,by rw[h1];exact h3 x⟩
def hH.iF(a:∀i Q,T i=some Q→U (f i)=some Q)(h:hH T ⟨d,.own⟩ Q w):hH U ⟨d.iF f,.own⟩ Q w:=by
 obtain⟨h1,h2⟩:=Qx a d;obtain⟨e,g,vs,t,bx,j,k,l,bf,m⟩:=h;exact⟨e,aar g,vs,t,bx,j,k,l,by rw[h1];exact bf,by rw[h1];exact h2 m⟩
end
end
section
variable [aR][aG]
def JH{g:List ah}{j:List Nat}:∀{l:List Nat} {c:List ah},xe g j l=some c→c.length=l.length∧
 ∀(i:Nat) b a,l[i]? =some b→c[i]? =some a→∃d,g[b]? =some ⟨d,a.mode⟩∧toD j d=some a.data
 |[],c,h=>by simp[xe]at h;subst h;exact⟨rfl,fun i b a e=>by simp at e⟩|b::r,c,h=>by
  simp only[xe]at h;split at h
  ·cases h
  rename_i d m k;split at h
  ·cases h
  rename_i q n;split at h
  ·rename_i s o;cases h;obtain⟨h1,h2⟩:=JH o;refine⟨by simp[h1],fun i p a e f=>?_⟩;cases i with
   |zero=>simp at e f;subst e f;exact⟨d,by rw[←cg];exact k,n⟩|succ i=>exact h2 i p a (by simpa using e) (by simpa using f)
  ·cases h
def Qy(f:Nat→Nat):∀(a:List ah) (i:Nat),(uQ f a)[i]? =(a[i]?).map fun k=>⟨k.data.iF f,k.mode⟩|[],i=>by simp[uQ]|⟨d,m⟩::a,0=>by simp[uQ]|⟨d,m⟩::a,i+1=>by simp[uQ,Qy f a i]
def Qz(f:Nat→Nat):∀a:List ah,(uQ f a).length=a.length|[]=>rfl|⟨d,m⟩::a=>by simp[uQ,Qz f a]
def aas(f:Nat→Nat):∀(c:List Nat) (d a j:List ah),c.Nodup→(∀b∈c,b<a.length)→uR f c d a=some j→
 c.length≤d.length∧j.length=a.length+(d.length-c.length)∧
 (∀b:Nat,b<a.length→(∀i:Nat,c[i]? =some b→(iY a b).mode≠.own)→j[b]? =a[b]?)∧
 (∀(i:Nat) b k,c[i]? =some b→d[i]? =some k→(iY a b).mode=.own→j[b]? =some ⟨k.data.iF f,k.mode⟩)∧
 (∀i:Nat,j[a.length+i]? =(d[c.length+i]?).map fun k=>⟨k.data.iF f,k.mode⟩):=by
 intro c
 induction c with
 |nil=>
  intro d a j _ _ h;simp only[uR,aD]at h;subst h;refine⟨by simp,by simp[Qz],fun b g _=>gV g,fun i b k g=>by simp at g,fun i=>?_⟩;rw[gL (by omega),Qy];simp
 |cons e c z=>
  intro d a j n w h;rw[Wn]at n;cases d with
  |nil=>simp[uR]at h|cons A d=>
   obtain⟨p,q⟩:=A;have B:e<a.length:=w e (lK ..);simp only[uR]at h;have main:∀m:List ah,m.length=a.length→(∀b:Nat,b≠e→m[b]? =a[b]?)→((iY a e).mode=.own→m[e]? =some ⟨p.iF f,q⟩)→((iY a e).mode≠.own→m[e]? =a[e]?)→uR f c d m=some j→
    c.length+1≤d.length+1∧j.length=a.length+(d.length+1-(c.length+1))∧
    (∀b:Nat,b<a.length→(∀i:Nat,(e::c)[i]? =some b→(iY a b).mode≠.own)→j[b]? =a[b]?)∧
    (∀(i:Nat) b k,(e::c)[i]? =some b→(⟨p,q⟩::d)[i]? =some k→(iY a b).mode=.own→j[b]? =some ⟨k.data.iF f,k.mode⟩)∧
    (∀i:Nat,j[a.length+i]? =((⟨p,q⟩::d)[c.length+1+i]?).map fun k=>⟨k.data.iF f,k.mode⟩):=by
    intro m s h1 h2 D h3;have x:∀b,b≠e→iY m b=iY a b:=by
     intro b g;unfold iY;rw[cg,cg,h1 b g]
    obtain⟨I,E,t,bf,F⟩:=z d m j n.2 (fun b g=>by rw[s];exact w b (ng _ g)) h3;refine⟨by omega,by rw[E,s];omega,fun b g hi=>?_,fun i b k g u r=>?_,fun i=>?_⟩
    ·by_cases l:b=e
     ·subst l;have H:=hi 0 rfl;rw[t b (by omega) (fun i o=>absurd (pJ o) n.1),D H]
     ·rw[t b (by omega) (fun i o=>by rw[x b l];exact hi (i+1) (by simpa using o)),h1 b l]
    ·cases i with
     |zero=>
      simp at g u;subst g u;rw[t e (by omega) (fun i o=>absurd (pJ o) n.1),h2 r]
     |succ i=>
      have y:c[i]? =some b:=by simpa using g
      have l:b≠e:=by intro l;subst l;exact n.1 (pJ y)
      exact bf i b k y (by simpa using u) (by rw[x b l];exact r)
    ·have:=F i;rw[s]at this;rw[this];have l:c.length+1+i=(c.length+i)+1:=by omega
     rw[l,rL]
   split at h
   ·rename_i v;exact main (fc ⟨p.iF f,q⟩ e a) (by rw[iN,lJ]) (fun b g=>by rw[iN,mw (fC g)]) (fun _=>by rw[iN,pL B]) (fun n=>absurd v n) h
   ·rename_i v;exact main a rfl (fun b _=>rfl) (fun r=>absurd r v) (fun _=>rfl) h
def JI(d:List ah):∀(c:List Nat) (l:Nat),zq d c l≤l∧∀b∈c,(iY d b).mode=.own→zq d c l≤b
 |[],l=>⟨aV _,fun b a=>by cases a⟩
 |f::c,l=>by
  simp only[zq];split
  ·obtain⟨h1,h2⟩:=JI d c (Nat.min l f);refine⟨ga h1 (Bm _ _),fun b a e=>?_⟩;rcases jJ.1 a with rfl|a
   ·exact ga h1 (Bn _ _)
   ·exact h2 b a e
  ·rename_i g;obtain⟨h1,h2⟩:=JI d c l;refine⟨h1,fun b a e=>?_⟩;rcases jJ.1 a with rfl|a
   ·exact absurd e (by simpa using g)
   ·exact h2 b a e
section
variable{C:eJ}{G:Nat→Option (List af)}
def dF(P:Program)(G:Nat→Option (List af))(f:FuncId)(d:Spec):Prop:=∀args a e r,d args a e=some r→
 (∀(i:Nat) k,r.H[i]? =some k→k.mode=.ro→∃c,a[i]? =some c∧c.mode=.ro)∧((∀g∈r.cond,g=true)→∀β w vs,aK β args vs→aM G β a w→
  (∃fn,P.funcs[f]? =some fn∧(fn.name== "runtime.NumGoroutine")=false∧fn.body.isSome=true)∧
  j6 P f ⟨vs⟩ w fun h w'=>∃u b,h=.returned u∧aC b r.v u∧aM G b r.H w'∧bJ β a w b r.H w')
def CM{P:Program}{f:FuncId}{aB:Spec}(aV:dF P G f aB):∀args S v W,BM aB args S=some (v,W)→Ext S W∧(W.ok→∀β w vs,aK β args vs→aM G β S.H w→
 (∃fn,P.funcs[f]? =some fn∧(fn.name== "runtime.NumGoroutine")=false∧fn.body.isSome=true)∧
 j6 P f ⟨vs⟩ w fun E w'=>∃u x,E=.returned u∧aC x v u∧aM G x W.H w'∧bJ β S.H w x W.H w'):=by
 intro args S v W h;unfold BM at h;simp only at h;generalize Is S.H 100 0 (uP args [])=e at h;split at h
 ·cases h
 rename_i ao;have ao:=JG ao;split at h
 ·cases h
 rename_i aW aX;split at h
 ·cases h
 rename_i s av;split at h
 ·cases h
 rename_i r aY;split at h
 ·cases h
 rename_i aZ a0;simp only[aD,aO]at h;obtain⟨rfl,rfl⟩:=h;obtain⟨Q,aF⟩:=JH av;obtain⟨ag,a1⟩:=aV aW s S.dec r aY;have X:∀(i b:Nat),e[i]? =some b→∃d a,s[i]? =some a∧S.H[b]? =some ⟨d,a.mode⟩∧toD e d=some a.data:=by
  intro i b n;have hi:i<s.length:=by
   rw[Q];rcases cu i e.length with h|h
   ·exact h
   ·rw[dz h]at n;cases n
  obtain⟨d,h1,h2⟩:=aF i b _ n (bX hi);exact⟨d,_,bX hi,h1,h2⟩
 have aH:∀b∈e,b<S.H.length:=by
  intro b n;obtain⟨i,hi⟩:=N1 n;obtain⟨d,a,_,h2,_⟩:=X i b hi;rw[←cg]at h2;exact se h2
 obtain⟨bk,ap,aw,a2,a3⟩:=aas _ _ _ _ _ ao aH a0;have aI:∀(i b:Nat) a,e[i]? =some b→s[i]? =some a→(iY S.H b).mode=a.mode:=by
  intro i b a n l;obtain⟨d,aq,h1,h2,_⟩:=X i b n;rw[h1]at l;injection l with l;subst l;unfold iY;rw[cg,h2]
 have a4:∀(i j b:Nat),e[i]? =some b→e[j]? =some b→i=j:=by
  intro i j b hi A;have bl:i<e.length:=(dW.1 hi).1;have J:j<e.length:=(dW.1 A).1;exact(List.getElem_inj ao).1 (by rw[(dW.1 hi).2,(dW.1 A).2])
 have R:∀(b:Nat) k,aZ[b]? =some k→(∃(i:Nat) (p:ah),r.H[i]? =some p∧k=⟨p.data.iF (xg e S.H.length),p.mode⟩∧xg e S.H.length i=b∧((e[i]? =some b∧∃a,s[i]? =some a∧a.mode=.own)∨(e.length≤i∧b=S.H.length+(i-e.length))))∨
  (b<S.H.length∧S.H[b]? =some k∧∀(i:Nat) a,e[i]? =some b→s[i]? =some a→a.mode≠.own):=by
  intro b k l;rcases cu b S.H.length with n|n
  ·by_cases o:∃(i:Nat) (a:ah),e[i]? =some b∧s[i]? =some a∧a.mode=.own
   ·obtain⟨i,a,h1,h2,h3⟩:=o;left;have hi:i<r.H.length:=by
     have:=(dW.1 h1).1;omega
    have:=a2 i b _ h1 (bX hi) (by rw[aI i b a h1 h2];exact h3);rw[this]at l;injection l with l;refine⟨i,r.H[i],bX hi,l.symm,?_,.inl ⟨h1,a,h2,h3⟩⟩;unfold xg;rw[cg,h1]
   ·right;have B:∀(i:Nat) (a:ah),e[i]? =some b→s[i]? =some a→a.mode≠.own:=fun i a h1 h2 h3=>o ⟨i,a,h1,h2,h3⟩;refine⟨n,?_,B⟩;rw[←aw b n fun i hi=>?_]
    ·exact l
    ·obtain⟨d,a,h1,h2,_⟩:=X i b hi;rw[aI i b a hi h1];exact B i a hi h1
  ·left;have E:b=S.H.length+(b-S.H.length):=by omega
   rw[E,a3,bT]at l;obtain⟨p,h1,h2⟩:=l;refine⟨e.length+(b-S.H.length),p,h1,h2.symm,?_,.inr ⟨by omega,by omega⟩⟩;unfold xg;rw[cg,dz (by omega)];simp only;omega
 have vE:∀(b i:Nat) p,r.H[i]? =some p→((e[i]? =some b∧∃a,s[i]? =some a∧a.mode=.own)∨(e.length≤i∧b=S.H.length+(i-e.length)))→p.mode≠.ro:=by
  intro b i p h1 h2 D;obtain⟨aq,Y,a5⟩:=ag i p h1 D;rcases h2 with⟨_,a,h3,h4⟩|⟨h3,_⟩
  ·rw[h3]at Y;injection Y with Y;subst Y;rw[a5]at h4;cases h4
  ·rw[dz (by omega)]at Y;cases Y
 obtain⟨a6,a7⟩:=JI S.H e S.low;refine⟨⟨fun a8 ai ag=>a8 ai (an1 _ ag),a6,by rw[ap];omega,fun b n a9=>?_,fun b k l D=>?_,fun b k l D=>?_⟩,fun ok β w vs ba K=>?_⟩
 ·rw[cg,cg];refine aw b n fun i hi o=>?_;have:=a7 b (pJ hi) o;simp only at a9;omega
 ·simp only[cg]at l⊢;rw[aw b (by rw[←cg]at l;exact se l) fun i hi o=>?_]
  ·exact l
  ·unfold iY at o;rw[cg,l]at o;simp only at o;rw[D]at o;cases o
 ·simp only[cg]at l⊢;rcases R b k l with⟨i,p,h1,rfl,_,h3⟩|⟨_,h2,_⟩
  ·exact absurd D (vE b i p h1 h3)
  ·exact h2
 have bb:∀ai∈r.cond,ai=true:=fun ai ag=>ok ai (Wm _ ag);have av:aM G (inner β e) s w:=by
  have ar:∀(i:Nat) a,s[i]? =some a→∃b d,e[i]? =some b∧S.H[b]? =some ⟨d,a.mode⟩∧toD e d=some a.data:=by
   intro i a l;have hi:i<e.length:=by rw[←Q];exact(dW.1 l).1
   obtain⟨d,h1,h2⟩:=aF i _ a (bX hi) l;exact⟨_,d,bX hi,h1,h2⟩
  refine⟨fun i a l q=>?_,fun i j k a m F T l au o q g z=>?_,fun i m g=>?_,K.dA,fun i k m l o g=>?_⟩
  ·obtain⟨b,d,h1,h2,h3⟩:=ar i a l;rw[lz h1];obtain⟨bc,bm⟩:=a;rcases K.blk b _ h2 q with⟨m,g,Z⟩|⟨M,ax⟩
   ·exact .inl ⟨m,g,Z.to h3⟩
   ·exact .inr ⟨by rw[(toD_spec (β:=β) h3).1];exact M,ax⟩
  ·obtain⟨b,d,h1,h2,h3⟩:=ar i k l;obtain⟨t,bc,U,aj,I⟩:=ar j a au;rw[lz h1]at g;rw[lz U]at z;refine K.dL b t _ _ m F (fun E=>T ?_) h2 aj o q g z;subst E;exact a4 i j b h1 U
  ·unfold inner at g;split at g
   ·rename_i b n;rw[Q];exact(dW.1 n).1
   ·cases g
  ·obtain⟨b,d,h1,h2,h3⟩:=ar i k l;rw[lz h1]at g;exact K.apart b _ m h2 o g
 obtain⟨bd,V⟩:=a1 bb (inner β e) w vs (toL_rel ba aX) av;refine⟨bd,V.mono ?_⟩;rintro E w' ⟨u,aa,rfl,bf,ak,L⟩;let x:aE:=fun b=>if b<S.H.length then β b else aa (e.length+(b-S.H.length))
 have N:∀b,b<S.H.length→x b=β b:=fun b n=>by simp[x,n]
 have aJ:∀(i b:Nat),e[i]? =some b→x b=aa i:=by
  intro i b hi;rw[N b (aH b (pJ hi)),L.old i (by rw[Q];exact(dW.1 hi).1),lz hi]
 have aL:∀i,e.length≤i→x (S.H.length+(i-e.length))=aa i:=by
  intro i hi;have h1:¬(S.H.length+(i-e.length)<S.H.length):=by omega
  have h2:e.length+(S.H.length+(i-e.length)-S.H.length)=i:=by omega
  simp only[x,h1,ee,h2]
 have ay:∀i m,aa i=some m→x (xg e S.H.length i)=some m:=by
  intro i m g;unfold xg;rcases cu i e.length with hi|hi
  ·rw[cg,bX hi];rw[aJ i _ (bX hi)];exact g
  ·rw[cg,dz hi];rw[aL i hi];exact g
 have aN:aE.le β x:=fun b m g=>by rw[N b (K.fl b m g)];exact g
 have ab:∀b i,((e[i]? =some b∧∃a,s[i]? =some a∧a.mode=.own)∨(e.length≤i∧b=S.H.length+(i-e.length)))→x b=aa i:=by
  rintro b i (⟨h,_⟩|⟨h,rfl⟩)
  ·exact aJ i b h
  ·exact aL i h
 have aP:∀(b:Nat) k m,S.H[b]? =some k→k.mode.alive→β b=some m→(∀(i:Nat) a,e[i]? =some b→s[i]? =some a→a.mode≠.own)→¬Own (inner β e) s m.c:=by
  rintro b k m l q g B ⟨j,az,al,A,ad,O,am⟩;have J:j<e.length:=by rw[←Q];exact(dW.1 A).1
  obtain⟨d,aq,y,M,_⟩:=X j _ (bX J);rw[A]at y;injection y with y;subst y;rw[lz (bX J)]at O;by_cases E:e[j]=b
  ·subst E;exact B j az (bX J) A ad
  ·exact K.dL e[j] b _ k al m E M l ad q O g am
 refine⟨u,x,rfl,vD ay bf,⟨fun b k l q=>?_,?_,fun b m g=>?_,ak.dA,fun b k m l o g=>?_⟩,⟨aN,by rw[ap];omega,L.os,L.tape,L.output,L.size,fun c V bg=>?_,fun c V ⟨b,k,m,l,o,g,aQ⟩=>?_,N⟩⟩
 ·rcases R b k l with⟨i,p,h1,rfl,_,h3⟩|⟨n,h2,B⟩
  ·obtain⟨bh,aS⟩:=p;have D:aS=.own:=by
    cases aS with
    |own=>rfl|ro=>exact absurd rfl (vE b i _ h1 h3)|bn=>exact absurd rfl q
   subst D;rw[ab b i h3];rcases ak.blk i _ h1 (eo rfl)with⟨m,g,Z⟩|⟨M,ax⟩
   ·exact .inl ⟨m,g,Z.iF ay⟩
   ·exact .inr ⟨by rw[(Qx ay bh).1];exact M,ax⟩
  ·rw[N b n];rcases K.blk b k h2 q with⟨m,g,Z⟩|h
   ·exact .inl ⟨m,g,Z.mono aN L.size (L.kept _ (Z.lt q) (aP b k m h2 q g B))⟩
   ·exact .inr h
 ·
   have aT:∀(b t i:Nat) (k p:ah) (m F:Loc),b≠t→S.H[b]? =some k→k.mode.alive→β b=some m→(∀(i:Nat) a,e[i]? =some b→s[i]? =some a→a.mode≠.own)→
    r.H[i]? =some p→p.mode=.own→aa i=some F→m.c≠F.c:=by
    intro b t i k p m F T l q g B h1 o z V;exact aP b k m l q g B (L.own _ (K.lt l q g) ⟨i,p,F,h1,o,z,V.symm⟩)
   intro b t k a m F T l au o q g z;rcases R b k l with⟨i,p,h1,rfl,_,h3⟩|⟨n,h2,B⟩
   ·rw[ab b i h3]at g;rcases R t a au with⟨ae,an,U,rfl,_,I⟩|⟨aA,aj,aU⟩
    ·rw[ab t ae I]at z;refine ak.dL i ae p an m F (fun E=>T ?_) h1 U o q g z;subst E;rcases h3 with⟨h3,_⟩|⟨h3,bi⟩<;>rcases I with⟨I,_⟩|⟨I,bj⟩
     ·rw[h3]at I;injection I
     ·have:=(dW.1 h3).1;omega
     ·have:=(dW.1 I).1;omega
     ·rw[bi,bj]
    ·rw[N t aA]at z;exact(aT t b i a p F m (fC T) aj q z aU h1 o g).symm
   ·rw[N b n]at g;rcases R t a au with⟨ae,an,U,rfl,_,I⟩|⟨aA,aj,aU⟩
    ·rw[ab t ae I]at z;have D:an.mode=.own:=by
      cases D:an.mode with
      |own=>rfl|ro=>exact absurd D (vE t ae _ U I)|bn=>exact absurd D q
     exact aT b t ae k an m F T h2 (eo o) g B U D z
    ·rw[N t aA]at z;exact K.dL b t k a m F T h2 aj o q g z
 ·rcases cu b S.H.length with n|n
  ·rw[ap];omega
  ·have h1:¬(b<S.H.length):=by omega
   simp only[x,h1,ee]at g;have:=ak.fl _ m g;rw[ap];omega
 ·rcases R b k l with⟨i,p,h1,rfl,_,h3⟩|⟨n,h2,B⟩
  ·rw[ab b i h3]at g;exact ak.apart i p m h1 o g
  ·rw[N b n]at g;exact K.apart b k m h2 o g
 ·refine L.kept c V fun⟨j,az,al,A,ad,O,am⟩=>bg ?_;have J:j<e.length:=by rw[←Q];exact(dW.1 A).1
  obtain⟨d,aq,y,M,_⟩:=X j _ (bX J);rw[A]at y;injection y with y;subst y;rw[lz (bX J)]at O;exact⟨e[j],_,al,M,ad,O,am⟩
 ·rcases R b k l with⟨i,p,h1,rfl,_,h3⟩|⟨n,h2,B⟩
  ·rw[ab b i h3]at g;obtain⟨j,az,al,A,ad,O,am⟩:=L.own c V ⟨i,p,m,h1,o,g,aQ⟩;have J:j<e.length:=by rw[←Q];exact(dW.1 A).1
   obtain⟨d,aq,y,M,_⟩:=X j _ (bX J);rw[A]at y;injection y with y;subst y;rw[lz (bX J)]at O;exact⟨e[j],_,al,M,ad,O,am⟩
  ·rw[N b n]at g;exact⟨b,k,m,h2,o,g,aQ⟩
end
end
section
variable [aR][aG]
variable{d P:Data}{l:U 8}{Q:Loc}
def nH(d P:Data):Prop:=P.len=d.len∧(∀β vs,aK β d.list vs→aK β P.list vs)∧(P=d∨(d.full∧P.full))
def nH.refl(d:Data):nH d d:=⟨rfl,fun _ _ h=>h,.inl rfl⟩
def nH.hold(h:nH d P){c:Nat}(a:fI d c):fI P c:=by
 rcases h.2.2 with h|⟨h1,h2⟩
 ·rw[h];exact a
 ·exact fI.of (a.tD h1) h2
def aat(h:d.j5=some l):d.full:=fun f l a=>by subst a;simp[Data.j5]at h
def aau{l:U 32}(h:d.oE=some l):d.full:=fun f l a=>by subst a;simp[Data.oE]at h
def aav{l:U 64}(h:d.oF=some l):d.full:=fun f l a=>by subst a;simp[Data.oF]at h
def aaw{l:U 32}(h:d.oE=some l):nH d (.eX l):=⟨Fc h,fun β vs a=>Ff h a,.inr ⟨aau h,fun f l b=>by cases b⟩⟩
def aax(h:d.j5=some l):nH d (.aj l):=⟨Co h,fun β vs a=>Cp h a,.inr ⟨aat h,fun f l b=>by cases b⟩⟩
def aay{l:U 64}(h:d.oF=some l):nH d (.bw l):=⟨Fe h,fun β vs a=>Fg h a,.inr ⟨aav h,fun f l b=>by cases b⟩⟩
section
variable{G:Nat→Option (List af)}{β:aE}{w:World}{R S:List ah}
def jb.less(h:jb β d Q w)(f:nH d P):jb β P Q w:=by
 rcases f.2.2 with n|⟨g,o⟩
 ·rw[n];exact h
 obtain⟨p,q,m⟩:=h;refine⟨p,by rw[f.1];exact q,?_⟩;have b:∃vs:List Value,aK β d.list vs∧∀(i:Nat) v,vs[i]? =some v→w.cell? (at' Q.c (Q.base+i))=some v:=by
  refine⟨(List.range d.len).map fun i=>(w.cell? (at' Q.c (Q.base+i))).getD undef,⟨by simp[Data.jx],fun i e v a b=>?_⟩,fun i v b=>?_⟩
  ·rw[Data.qL g]at a;obtain⟨u,j,k,_⟩:=m i e a;have hi:i<d.len:=by
    rw[←Data.jx];rw[←Data.qL g]at a;rcases cu i d.list.length with h|h
    ·exact h
    ·rw[dz h]at a;cases a
   simp[hi,j]at b;subst b;exact k
  ·rcases cu i d.len with hi|hi
   ·have a:∃e,d.at i=some e:=by
     rw[←Data.qL g];exact⟨d.list[i]'(by rw[Data.jx];exact hi),bX _⟩
    obtain⟨e,a⟩:=a;obtain⟨u,j,k,_⟩:=m i e a;simp[hi,j]at b;subst b;exact j
   ·simp[show¬i<d.len by omega]at b
 obtain⟨vs,h1,h2⟩:=b;intro i e a;have:=(f.2.1 β vs h1);rw[←Data.qL o]at a;obtain⟨v,b,k⟩:=this.get a;have hi:i<d.len:=by
  rw[←f.1,←Data.jx];exact(dW.1 a).1
 obtain⟨_,_,_,r⟩:=m i _ (by rw[←Data.qL g];exact bX (by rw[Data.jx];exact hi));exact⟨v,h2 i v b,k,r⟩
def hH.less{k b:ah}(h:hH β k Q w)(c:b.mode=k.mode)(a:nH k.data b.data):hH β b Q w:=by
 obtain⟨d,m⟩:=k;obtain⟨P,e⟩:=b;simp only at c a;subst c;cases e with
 |bn=>trivial|ro=>exact jb.less h a|own=>
  obtain⟨f,g,vs,t,bx,i,j,n,bf,o⟩:=h;exact⟨f,a.hold g,vs,t,bx,i,j,n,by rw[a.1];exact bf,by rw[a.1];exact a.2.1 β _ o⟩
end
end
section
variable [aR][aG]
variable{P:af}{v:Value}{ps R T:List af}{U:List ah}{rs:Option (List Nat)}{Q:af}{V:List ah}{vs:List Value}{k S:ah}{cH:List ah}{β':aE}
def c7(p P:N):N:=
 match p with
 |.c _=>P|.s _=>.s P.v
def Af(p P:Option N):Option N:=
 match p with
 |none=>none|some p=>
  match P with
  |some P=>some (c7 p P)|none=>none
def vF(p:El)(P:af):Option af:=
 match p with
 |.aa=>some .aa|.bool b=>
  match b with
  |.c _=>some P|.s _=>
   match P with
   |.atom (.bool b)=>some (.bool (.s b.v))|_=>none
 |_=>some P
def nI(p:bk)(P:af):Option af:=
 match p with
 |.int _ z=>
  match z with
  |.c _=>some P|.s _=>
   match P with
   |.num (.int k z)=>some (.int k (.s z.v))|_=>none
 |.bP _=>P.fE.map fun P=>.bP P|.cX _=>P.mD.map fun P=>.cX P|.aF _=>P.iu.map fun P=>.aF P|.av _=>P.fF.map fun P=>.av P
def nJ(p:Ref)(P:af):Option af:=
 match p with
 |.ptr _ a=>
  match P with
  |.ref (.ptr b d)=>some (.ptr b (c7 a d))|_=>none
 |.eC .. =>some P|.gs .. =>some P|.sm e pl ps=>
  match P with
  |.ref (.sm b l f)=>some (.sm b (c7 pl l) f)|.atom .cD=>some (.sm e (c7 pl (.c 0)) ps)|_=>none
 |.sl e a pl g=>
  match P with
  |.ref (.sl b d l c)=>some (.sl b (c7 a d) (c7 pl l) (Af g c))|.atom .cD=>some (.sl e (c7 a (.c 0)) (c7 pl (.c 0)) none)|_=>none
mutual
def b7:af→af→Option af
 |.atom p,P=>vF p P|.num p,P=>nI p P|.ref p,P=>nJ p P|.agg ps,P=>
  match P with
  |.agg R=>
   match iO ps R with
   |some R=>some (.agg R)|none=>none
  |_=>none
 |.obj t ps,P=>
  match t with
  |.bA=>
   match P with
   |.obj .bA R=>
    match iO ps R with
    |some R=>some (.obj .bA R)|none=>none
   |_=>none
  |_=>some P
def iO:List af→List af→Option (List af)
 |[],R=>
  match R with
  |[]=>some []|_=>none
 |p::ps,R=>
  match R with
  |[]=>none|P::R=>
   match b7 p P with
   |none=>none|some Q=>
    match iO ps R with
    |none=>none|some T=>some (Q::T)
end
def ko(p d:Data):Option Data:=
 match p with
 |.aj _=>d.j5.map fun l=>.aj l|.eX _=>d.oE.map fun l=>.eX l|.bw _=>d.oF.map fun l=>.bw l|.gen ps=>
  match d with
  |.gen R=>(iO ps R).map fun l=>.gen l|_=>none
 |.spot .. =>none|.e9 _ a=>
  match d with
  |.e9 l t=>(iO a t).map fun t=>.e9 l t|_=>none
 |.lim .. =>
  match d with
  |.lim f l=>some (.lim f l)|_=>none
def eM(p k:ah):Option ah:=
 match p.mode with
 |.bn=>some ⟨.gen [],.bn⟩|.ro=>
  match k.mode with
  |.bn=>none|_=>
   match ko p.data k.data with
   |some d=>some ⟨d,.ro⟩|none=>none
 |.own=>
  match k.mode with
  |.own=>
   match ko p.data k.data with
   |some d=>some ⟨d,.own⟩|none=>none
  |_=>none
def eW:List ah→List ah→Option (List ah)
 |[],a=>
  match a with
  |[]=>some []|_=>none
 |p::ps,a=>
  match a with
  |[]=>none|k::a=>
   match eM p k with
   |none=>none|some k=>
    match eW ps a with
    |none=>none|some a=>some (k::a)
def jz(rs:Option (List Nat))(p P:af):Option af:=
 match p with
 |.atom .aa=>some .aa|p=>
  match rs with
  |none=>b7 p P|some rs=>
   match toV rs P with
   |some P=>b7 p P|none=>none
def lA(rs:Option (List Nat)):List af→List af→Option (List af)
 |[],R=>
  match R with
  |[]=>some []|_=>none
 |p::ps,R=>
  match R with
  |[]=>none|P::R=>
   match jz rs p P with
   |none=>none|some Q=>
    match lA rs ps R with
    |none=>none|some T=>some (Q::T)
def sg(rs:Option (List Nat))(a:List (Nat×af)):List (Nat×af)→Option (List (Nat×af))
 |[]=>some []|(t,p)::ps=>
  match jz rs p (kM t a)with
  |none=>none|some Q=>
   match sg rs a ps with
   |none=>none|some T=>some ((t,Q)::T)
def gr(rs:Option (List Nat))(p a:aJ):Option aJ:=
 match lA rs p.vars a.vars with
 |none=>none|some vs=>
  match sg rs a.tmps p.tmps with
  |none=>none|some b=>some ⟨vs,b⟩
def CN:Nat→Nat→List Nat→Bool
 |0,_,_=>true|n+1,i,rs=>
  match rs with
  |[]=>false|P::rs=>
   match Nat.beq P i with
   |true=>CN n (i+1) rs|false=>false
def lW(n0:Nat)(cH:List ah)(rs:Option (List Nat))(ps U:List ah):Option (List ah):=
 match rs with
 |none=>eW ps (U++cH)|some rs=>
  match BL rs&&CN n0 0 rs with
  |false=>none|true=>
   match xe (U++cH) rs rs with
   |some U=>eW ps U|none=>none
def tL(p P:N):(c7 p P).v=P.v:=by cases p<;>rfl
section
variable{β:aE}
def kR{p:El}(h:vF p P=some Q)(a:aC β P v):aC β Q v:=by
 unfold vF at h;split at h
 ·cases h;exact .aa _
 ·split at h
  ·cases h;exact a
  ·split at h
   ·rename_i b;cases h;rw[a.tC];exact .bool (.s b.v)
   ·cases h
 ·cases h;exact a
def kS{p:bk}(h:nI p P=some Q)(a:aC β P v):aC β Q v:=by
 unfold nI at h;split at h
 ·split at h
  ·cases h;exact a
  ·split at h
   ·rename_i k z;cases h;rw[a.num_inv];exact .num (.int k (.s z.v))
   ·cases h
 ·cases P with
  |num n=>
   simp only[af.fE,bT]at h;obtain⟨z,h1,rfl⟩:=h;rw[a.num_inv,bk.rV h1];exact .num (.bP z)
  |_=>simp[af.fE]at h
 ·cases P with
  |num n=>
   simp only[af.mD,bT]at h;obtain⟨z,h1,rfl⟩:=h;rw[a.num_inv,bk.B7 h1];exact .num (.cX z)
  |_=>simp[af.mD]at h
 ·cases P with
  |num n=>
   simp only[af.iu,bT]at h;obtain⟨z,h1,rfl⟩:=h;rw[a.num_inv,bk.u5 h1];exact .num (.aF z)
  |_=>simp[af.iu]at h
 ·cases P with
  |num n=>
   simp only[af.fF,bT]at h;obtain⟨z,h1,rfl⟩:=h;rw[a.num_inv,bk.oP h1];exact .num (.av z)
  |_=>simp[af.fF]at h
def kT{p:Ref}(h:nJ p P=some Q)(e:aC β P v):aC β Q v:=by
 unfold nJ at h;split at h
 ·split at h
  ·rename_i b o;cases h;obtain⟨q,r,rfl⟩:=e.qK;rw[←tL];exact .ptr b _ q r
  ·cases h
 ·cases h;exact e
 ·cases h;exact e
 ·split at h
  ·rename_i f pl ps _ b l s;cases h;obtain⟨a,g,rfl,i,j⟩:=e.Cl;rw[←tL pl l];exact .sm b _ s a g (by rw[tL];exact i) j
  ·rename_i f pl ps _;cases h;cases e;have m:(c7 pl (.c 0)).v=0:=tL _ _;have:=aC.sm (β:=β) f (c7 pl (.c 0)) ps none 0 (by omega) (.inl rfl);rw[m]at this;exact this
  ·cases h
 ·split at h
  ·rename_i f n pl t _ b o l c;cases h;obtain⟨a,g,rfl,i,u,j⟩:=e.pW;rw[←tL pl l];refine .sl b _ _ _ a g (by rw[tL];exact i) (fun C d=>?_) (by rw[tL];exact j);unfold Af at d;split at d
   ·cases d
   ·split at d
    ·injection d with d;subst d;rw[tL];exact u _ rfl
    ·cases d
  ·rename_i f n pl t _;cases h;cases e;have m:(c7 pl (.c 0)).v=0:=tL _ _;have:=aC.sl (β:=β) f (c7 n (.c 0)) (c7 pl (.c 0)) none none 0 (by omega) (fun C d=>by cases d) (.inl rfl);rw[m]at this;exact this
  ·cases h
def CO(h:iO ps R=some T):T.length=R.length∧∀(i:Nat) P Q,R[i]? =some P→T[i]? =some Q→∃p,b7 p P=some Q:=by
 induction ps generalizing R T with
 |nil=>
  simp only[iO]at h;split at h
  ·cases h;exact⟨rfl,fun i P Q e=>by simp at e⟩
  ·cases h
 |cons p ps f=>
  cases R with
  |nil=>simp[iO]at h|cons P R=>
   simp only[iO]at h;split at h
   ·cases h
   ·rename_i Q g;split at h
    ·cases h
    ·rename_i l j;cases h;obtain⟨h1,h2⟩:=f j;refine⟨by simp[h1],fun i a b c d=>?_⟩;cases i with
     |zero=>simp at c d;subst c d;exact⟨p,g⟩|succ i=>exact h2 i a b (by simpa using c) (by simpa using d)
def xO(d:aC β P v):∀{p Q:af},b7 p P=some Q→aC β Q v:=by
 induction d with
 |agg R vs e h o=>
  intro p Q c;cases p with
  |atom p=>exact kR c (.agg R vs e h)|num p=>exact kS c (.agg R vs e h)|ref p=>exact kT (by simpa only[b7]using c) (.agg R vs e h)|agg ps=>
   simp only[b7]at c;split at c
   ·rename_i T s;injection c with c;subst c;obtain⟨h1,h2⟩:=CO s;refine .agg T vs (h1.trans e) fun i a b j x=>?_;have hi:i<R.length:=by
     rcases cu i R.length with h|h
     ·exact h
     ·rw[dz (by omega)]at j;cases j
    obtain⟨q,y⟩:=h2 i _ a (bX hi) j;exact o i _ b (bX hi) x y
   ·cases c
  |obj t ps=>
   simp only[b7]at c;split at c
   ·cases c
   ·injection c with c;subst c;exact .agg R vs e h
 |bA R vs e h o=>
  intro p Q c;cases p with
  |atom p=>exact kR c (.bA R vs e h)|num p=>exact kS c (.bA R vs e h)|ref p=>exact kT (by simpa only[b7]using c) (.bA R vs e h)|agg ps=>simp[b7]at c|obj t ps=>
   simp only[b7]at c;split at c
   ·split at c
    ·rename_i T s;injection c with c;subst c;obtain⟨h1,h2⟩:=CO s;refine .bA T vs (h1.trans e) fun i a b j x=>?_;have hi:i<R.length:=by
      rcases cu i R.length with h|h
      ·exact h
      ·rw[dz (by omega)]at j;cases j
     obtain⟨q,y⟩:=h2 i _ a (bX hi) j;exact o i _ b (bX hi) x y
    ·cases c
   ·injection c with c;subst c;exact .bA R vs e h
 |iq t P v h o=>
  intro p Q c;have d:=aC.iq t P v h;cases p with
  |atom p=>exact kR c d|num p=>exact kS c d|ref p=>exact kT (by simpa only[b7]using c) d|agg ps=>simp[b7]at c|obj t ps=>
   simp only[b7]at c;split at c
   ·cases c
   ·injection c with c;subst c;exact d
 |fn f n R first captured A e h o=>
  intro p Q c;have d:=aC.fn f n R first captured A e h
  cases p with
  |atom p=>exact kR c d|num p=>exact kS c d|ref p=>exact kT (by simpa only[b7]using c) d|agg ps=>simp[b7]at c|obj t ps=>
   simp only[b7]at c;split at c
   ·cases c
   ·injection c with c;subst c;exact d
 |aa v=>
  intro p Q c;have d:=aC.aa (β:=β) v;cases p with
  |atom p=>exact kR c d|num p=>exact kS c d|ref p=>exact kT (by simpa only[b7]using c) d|agg ps=>simp[b7]at c|obj t ps=>
   simp only[b7]at c;split at c
   ·cases c
   ·injection c with c;subst c;exact d
 |bool b=>
  intro p Q c;have d:=aC.bool (β:=β) b;cases p with
  |atom p=>exact kR c d|num p=>exact kS c d|ref p=>exact kT (by simpa only[b7]using c) d|agg ps=>simp[b7]at c|obj t ps=>
   simp only[b7]at c;split at c
   ·cases c
   ·injection c with c;subst c;exact d
 |str z=>
  intro p Q c;have d:=aC.str (β:=β) z;cases p with
  |atom p=>exact kR c d|num p=>exact kS c d|ref p=>exact kT (by simpa only[b7]using c) d|agg ps=>simp[b7]at c|obj t ps=>
   simp only[b7]at c;split at c
   ·cases c
   ·injection c with c;subst c;exact d
 |mB=>
  intro p Q c;have d:=aC.mB (β:=β);cases p with
  |atom p=>exact kR c d|num p=>exact kS c d|ref p=>exact kT (by simpa only[b7]using c) d|agg ps=>simp[b7]at c|obj t ps=>
   simp only[b7]at c;split at c
   ·cases c
   ·injection c with c;subst c;exact d
 |cD=>
  intro p Q c;have d:=aC.cD (β:=β);cases p with
  |atom p=>exact kR c d|num p=>exact kS c d|ref p=>exact kT (by simpa only[b7]using c) d|agg ps=>simp[b7]at c|obj t ps=>
   simp only[b7]at c;split at c
   ·cases c
   ·injection c with c;subst c;exact d
 |fD=>
  intro p Q c;have d:=aC.fD (β:=β);cases p with
  |atom p=>exact kR c d|num p=>exact kS c d|ref p=>exact kT (by simpa only[b7]using c) d|agg ps=>simp[b7]at c|obj t ps=>
   simp only[b7]at c;split at c
   ·cases c
   ·injection c with c;subst c;exact d
 |mC=>
  intro p Q c;have d:=aC.mC (β:=β);cases p with
  |atom p=>exact kR c d|num p=>exact kS c d|ref p=>exact kT (by simpa only[b7]using c) d|agg ps=>simp[b7]at c|obj t ps=>
   simp only[b7]at c;split at c
   ·cases c
   ·injection c with c;subst c;exact d
 |exact u=>
  intro p Q c;have d:=aC.exact (β:=β) u;cases p with
  |atom p=>exact kR c d|num p=>exact kS c d|ref p=>exact kT (by simpa only[b7]using c) d|agg ps=>simp[b7]at c|obj t ps=>
   simp only[b7]at c;split at c
   ·cases c
   ·injection c with c;subst c;exact d
 |num n=>
  intro p Q c;have d:=aC.num (β:=β) n;cases p with
  |atom p=>exact kR c d|num p=>exact kS c d|ref p=>exact kT (by simpa only[b7]using c) d|agg ps=>simp[b7]at c|obj t ps=>
   simp only[b7]at c;split at c
   ·cases c
   ·injection c with c;subst c;exact d
 |ptr b m B C=>
  intro p Q c;have d:=aC.ptr b m B C;cases p with
  |atom p=>exact kR c d|num p=>exact kS c d|ref p=>exact kT (by simpa only[b7]using c) d|agg ps=>simp[b7]at c|obj t ps=>
   simp only[b7]at c;split at c
   ·cases c
   ·injection c with c;subst c;exact d
 |eC g m=>
  intro p Q c;have d:=aC.eC (β:=β) g m;cases p with
  |atom p=>exact kR c d|num p=>exact kS c d|ref p=>exact kT (by simpa only[b7]using c) d|agg ps=>simp[b7]at c|obj t ps=>
   simp only[b7]at c;split at c
   ·cases c
   ·injection c with c;subst c;exact d
 |gs g m l r h1=>
  intro p Q c;have d:=aC.gs (β:=β) g m l r h1;cases p with
  |atom p=>exact kR c d|num p=>exact kS c d|ref p=>exact kT (by simpa only[b7]using c) d|agg ps=>simp[b7]at c|obj t ps=>
   simp only[b7]at c;split at c
   ·cases c
   ·injection c with c;subst c;exact d
 |sm b l z a r h1 h3=>
  intro p Q c;have d:=aC.sm b l z a r h1 h3;cases p with
  |atom p=>exact kR c d|num p=>exact kS c d|ref p=>exact kT (by simpa only[b7]using c) d|agg ps=>simp[b7]at c|obj t ps=>
   simp only[b7]at c;split at c
   ·cases c
   ·injection c with c;subst c;exact d
 |sl b m l D a r h1 h2 h3=>
  intro p Q c;have d:=aC.sl b m l D a r h1 h2 h3;cases p with
  |atom p=>exact kR c d|num p=>exact kS c d|ref p=>exact kT (by simpa only[b7]using c) d|agg ps=>simp[b7]at c|obj t ps=>
   simp only[b7]at c;split at c
   ·cases c
   ·injection c with c;subst c;exact d
def QA(h:iO ps R=some T)(d:aK β R vs):aK β T vs:=by
 obtain⟨h1,h2⟩:=CO h;refine⟨h1.trans d.1,fun i a b c e=>?_⟩;have hi:i<R.length:=by
  rcases cu i R.length with h|h
  ·exact h
  ·rw[dz (by omega)]at c;cases c
 obtain⟨q,f⟩:=h2 i _ a (bX hi) c;exact xO (d.2 i _ b (bX hi) e) f
end
def QB{a t b:List af}(h:iO a t=some b):∀l:List Value,iO (l.map af.exact++a) (l.map af.exact++t)=some (l.map af.exact++b)
 |[]=>h|v::l=>by
  show iO (af.exact v::(l.map af.exact++a)) (af.exact v::(l.map af.exact++t))=some (af.exact v::(l.map af.exact++b));rw[iO,QB h l];rfl
def QC{p d c:Data}(h:ko p d=some c):nH d c:=by
 unfold ko at h;split at h
 ·rw[bT]at h;obtain⟨l,h1,rfl⟩:=h;exact aax h1
 ·rw[bT]at h;obtain⟨l,h1,rfl⟩:=h;exact aaw h1
 ·rw[bT]at h;obtain⟨l,h1,rfl⟩:=h;exact aay h1
 ·split at h
  ·rw[bT]at h;obtain⟨l,h1,rfl⟩:=h;exact⟨(CO h1).1,fun β vs b=>QA h1 b,.inr ⟨lU _,lU _⟩⟩
  ·cases h
 ·cases h
 ·split at h
  ·rename_i l t;rw[bT]at h;obtain⟨e,h1,rfl⟩:=h;have a:=QB h1 l;exact⟨by have:=(CO a).1;simpa[Data.len]using this,fun β vs b=>QA a b,.inr ⟨fun f l a=>(by cases a),fun f l a=>(by cases a)⟩⟩
  ·cases h
 ·split at h
  ·cases h;exact nH.refl _
  ·cases h
def aaz{p:ah}(h:eM p k=some S):S.mode=.bn∨(k.mode.alive∧(S.mode=k.mode∨S.mode=.ro)∧nH k.data S.data):=by
 unfold eM at h;split at h
 ·cases h;exact .inl rfl
 ·split at h
  ·cases h
  ·rename_i a;split at h
   ·rename_i d b;cases h;exact .inr ⟨a,.inr rfl,QC b⟩
   ·cases h
 ·split at h
  ·rename_i a;split at h
   ·rename_i d b;cases h;exact .inr ⟨eo a,.inl a.symm,QC b⟩
   ·cases h
  ·cases h
def hH.look{β:aE}{w:World}{b:Loc}(h:hH β k b w)(c:k.mode.alive)(a:S.mode=k.mode∨S.mode=.ro)(d:nH k.data S.data):hH β S b w:=by
 rcases a with a|a
 ·exact h.less a d
 ·have e:jb β k.data b w:=⟨h.lt c,h.room c,fun i P f=>h.cell c f⟩;obtain⟨g,j⟩:=S;simp only at a d;subst a;exact jb.less e d
def tM{ps a c:List ah}(h:eW ps a=some c):c.length=a.length∧∀(i:Nat) S,c[i]? =some S→∃k,a[i]? =some k∧(S.mode=.bn∨(k.mode.alive∧(S.mode=k.mode∨S.mode=.ro)∧nH k.data S.data)):=by
 induction ps generalizing a c with
 |nil=>
  simp only[eW]at h;split at h
  ·cases h;exact⟨rfl,fun i P e=>by simp at e⟩
  ·cases h
 |cons p ps f=>
  cases a with
  |nil=>simp[eW]at h|cons k a=>
   simp only[eW]at h;split at h
   ·cases h
   ·rename_i Q g;split at h
    ·cases h
    ·rename_i l j;cases h;obtain⟨h1,h2⟩:=f j;refine⟨by simp[h1],fun i b d=>?_⟩;cases i with
     |zero=>simp at d;subst d;exact⟨k,rfl,aaz g⟩|succ i=>exact h2 i b (by simpa using d)
section
variable{G:Nat→Option (List af)}{β:aE}{w:World}
def aM.JJ{ps:List ah}(h:aM G β U w)(p:eW ps U=some V):aM G β V w∧(∀(b:Nat) k,V[b]? =some k→k.mode=.own→∃i,U[b]? =some i∧i.mode=.own):=by
 obtain⟨h1,h2⟩:=tM p;have j:∀(b:Nat) k,V[b]? =some k→k.mode=.own→∃i,U[b]? =some i∧i.mode=.own:=by
  intro b S c d;obtain⟨k,e,a|⟨_,a|a,_⟩⟩:=h2 b S c
  ·rw[d]at a;cases a
  ·exact⟨k,e,a▸d⟩
  ·rw[d]at a;cases a
 refine⟨⟨fun b S c l=>?_,fun b m q r f s t c u d l g x=>?_,fun b f g=>by rw[h1];exact h.fl b f g,h.dA,fun b S f c d g=>?_⟩,j⟩
 ·obtain⟨k,e,a|⟨n,a,o⟩⟩:=h2 b S c
  ·exact absurd a l
  ·rcases h.blk b k e n with⟨f,g,y⟩|⟨z,A⟩
   ·exact .inl ⟨f,g,y.look n a o⟩
   ·exact .inr ⟨o.1.trans z,A⟩
 ·obtain⟨k,e,a⟩:=j b q c d;obtain⟨S,B,C|⟨D,_⟩⟩:=h2 m r u
  ·exact absurd C l
  exact h.dL b m k S f s t e B a D g x
 ·obtain⟨k,e,a⟩:=j b S c d;exact h.apart b k f e a g
def QD(h:∀(b:Nat) k,V[b]? =some k→k.mode=.own→∃a,U[b]? =some a∧a.mode=.own):∀c,Own β V c→Own β U c:=by
 rintro c ⟨b,S,d,e,f,g,i⟩;obtain⟨k,j,l⟩:=h b S e f;exact⟨b,k,d,j,l,g,i⟩
def aM.QE(h:aM G β U w)(o:∀k∈cH,k.data.len=0):aM G β (U++cH) w∧(∀c,Own β (U++cH) c→Own β U c):=by
 have f:∀(b:Nat) k,(U++cH)[b]? =some k→U[b]? =some k∨(k.data.len=0∧β b=none):=by
  intro b k d;rcases cu b U.length with j|j
  ·rw[gV j]at d;exact .inl d
  ·rw[gL j]at d;refine .inr ⟨o k (pJ d),?_⟩;cases p:β b with
   |none=>rfl|some e=>have:=h.fl b e p;omega
 refine⟨⟨fun b k d l=>?_,fun b n k S e q r d s i l a m=>?_,fun b e a=>?_,h.dA,fun b k e d i a=>?_⟩,?_⟩
 ·rcases f b k d with g|g
  ·exact h.blk b k g l
  ·exact .inr g
 ·rcases f b k d with g|⟨_,g⟩
  ·rcases f n S s with g'|⟨_,g'⟩
   ·exact h.dL b n k S e q r g g' i l a m
   ·rw[g']at m;cases m
  ·rw[g]at a;cases a
 ·have:=h.fl b e a;rw[fB];omega
 ·rcases f b k d with g|⟨_,g⟩
  ·exact h.apart b k e g i a
  ·rw[g]at a;cases a
 ·rintro c ⟨b,k,e,d,i,a,t⟩;rcases f b k d with g|⟨_,g⟩
  ·exact⟨b,k,e,g,i,a,t⟩
  ·rw[g]at a;cases a
def aM.inner{U g:List ah}{rs:List Nat}(m:aM G β U w)(s:rs.Nodup)(t:xe U rs rs=some g):aM G (inner β rs) g w∧(∀c,Own (inner β rs) g c→Own β U c)∧g.length=rs.length:=by
 obtain⟨n,u⟩:=JH t;have x:∀(i j b:Nat),rs[i]? =some b→rs[j]? =some b→i=j:=by
  intro i j b hi p;have L:i<rs.length:=(dW.1 hi).1;have M:j<rs.length:=(dW.1 p).1;exact(List.getElem_inj s).1 (by rw[(dW.1 hi).2,(dW.1 p).2])
 have h:∀(i:Nat) S,g[i]? =some S→∃b d,rs[i]? =some b∧U[b]? =some ⟨d,S.mode⟩∧toD rs d=some S.data:=by
  intro i S e;have hi:i<rs.length:=by rw[←n];exact(dW.1 e).1
  obtain⟨d,h1,h2⟩:=u i _ S (bX hi) e;exact⟨_,d,bX hi,h1,h2⟩
 refine⟨⟨fun i S e o=>?_,fun i j k S f y z e A l o a q=>?_,fun i f a=>?_,m.dA,fun i k f e l a=>?_⟩,?_,n⟩
 ·obtain⟨b,d,h1,h2,h3⟩:=h i S e;rw[lz h1];obtain⟨B,N⟩:=S;rcases m.blk b _ h2 o with⟨f,a,C⟩|⟨D,E⟩
  ·exact .inl ⟨f,a,C.to h3⟩
  ·exact .inr ⟨by rw[(toD_spec (β:=β) h3).1];exact D,E⟩
 ·obtain⟨b,d,h1,h2,h3⟩:=h i k e;obtain⟨F,B,r,H,O⟩:=h j S A;rw[lz h1]at a;rw[lz r]at q;refine m.dL b F _ _ f y (fun I=>z ?_) h2 H l o a q;subst I;exact x i j b h1 r
 ·unfold ay.inner at a;split at a
  ·rename_i b J;rw[n];exact(dW.1 J).1
  ·cases a
 ·obtain⟨b,d,h1,h2,h3⟩:=h i k e;rw[lz h1]at a;exact m.apart b _ f h2 l a
 ·rintro c ⟨i,k,f,e,l,a,K⟩;obtain⟨b,d,h1,h2,h3⟩:=h i k e;rw[lz h1]at a;exact⟨b,_,f,h2,l,a,K⟩
def QF:∀(n i:Nat) (rs:List Nat),CN n i rs=true→∀j,j<n→rs[j]? =some (i+j)
 |0,_,_,_,j,b=>by omega|n+1,i,[],h,j,_=>by simp[CN]at h|n+1,i,P::rs,h,j,b=>by
  simp only[CN]at h;split at h
  ·rename_i a;have a:P=i:=by simpa using a
   cases j with
   |zero=>simp[a]|succ j=>
    have:=QF n (i+1) rs h j (by omega);simp only[rL,this];congr 1;omega
  ·cases h
def xP{n0:Nat}{ps:List ah}(m:∀k∈cH,k.data.len=0)(h:lW n0 cH rs ps U=some V)(z:n0≤U.length)(n:aM G β U w):
 ∃β':aE,aM G β' V w∧(∀b,b<n0→β' b=β b)∧n0≤V.length∧(∀c,Own β' V c→Own β U c)∧∀p P Q v,jz rs p P=some Q→aC β P v→aC β' Q v:=by
 obtain⟨i,j⟩:=n.QE m;cases rs with
 |none=>
  simp only[lW]at h;obtain⟨d,bf⟩:=i.JJ h;refine⟨β,d,fun _ _=>rfl,by rw[(tM h).1,fB];omega,fun c e=>j c (QD bf c e),fun p P Q v a f=>?_⟩;unfold jz at a;split at a
  ·injection a with a;subst a;exact .aa _
  ·exact xO f a
 |some rs=>
  simp only[lW]at h;split at h
  ·cases h
  rename_i g;simp only[dI]at g;split at h
  case h_2=>cases h
  rename_i A o;obtain⟨d,bf,q⟩:=i.inner (JG g.1) o;obtain⟨r,s⟩:=d.JJ h;have l:=QF n0 0 rs g.2;refine⟨ay.inner β rs,r,fun b t=>?_,?_,fun c e=>j c (bf c (QD s c e)),fun p P Q v a f=>?_⟩
  ·have:=l b t;rw[cM]at this;exact lz this
  ·rw[(tM h).1,q];rcases cu rs.length n0 with u|x
   ·have:=l rs.length u;rw[dz (aV _)]at this;cases this
   ·exact x
  ·unfold jz at a;split at a
   ·injection a with a;subst a;exact .aa _
   ·simp only at a;split at a
    ·rename_i B y;exact xO (toV_rel f y) a
    ·cases a
def QG(h:lA rs ps R=some T):T.length=R.length∧∀(i:Nat) P Q,R[i]? =some P→T[i]? =some Q→∃p,jz rs p P=some Q:=by
 induction ps generalizing R T with
 |nil=>
  simp only[lA]at h;split at h
  ·cases h;exact⟨rfl,fun i P Q e=>by simp at e⟩
  ·cases h
 |cons p ps f=>
  cases R with
  |nil=>simp[lA]at h|cons P R=>
   simp only[lA]at h;split at h
   ·cases h
   ·rename_i Q g;split at h
    ·cases h
    ·rename_i l j;cases h;obtain⟨h1,h2⟩:=f j;refine⟨by simp[h1],fun i a b c d=>?_⟩;cases i with
     |zero=>simp at c d;subst c d;exact⟨p,g⟩|succ i=>exact h2 i a b (by simpa using c) (by simpa using d)
def QH(e:∀p P Q v,jz rs p P=some Q→aC β P v→aC β' Q v)(h:lA rs ps R=some T)(d:aK β R vs):aK β' T vs:=by
 obtain⟨h1,h2⟩:=QG h;refine⟨h1.trans d.1,fun i a b c f=>?_⟩;have hi:i<R.length:=by
  rcases cu i R.length with h|h
  ·exact h
  ·rw[dz (by omega)]at c;cases c
 obtain⟨q,g⟩:=h2 i _ a (bX hi) c;exact e q _ a _ g (d.2 i _ b (bX hi) f)
def QI{rs:Option (List Nat)}{b:List (Nat×af)}:∀{ps T:List (Nat×af)},sg rs b ps=some T→∀t,kM t T=.aa∨∃p,jz rs p (kM t b)=some (kM t T)
 |[],T,h,t=>by simp[sg]at h;subst h;exact .inl rfl|(c,p)::ps,T,h,t=>by
  simp only[sg]at h;split at h
  ·cases h
  ·rename_i Q d;split at h
   ·cases h
   ·rename_i f e;cases h;simp only[kM];split
    ·rename_i a;have a:c=t:=by simpa using a
     subst a;exact .inr ⟨p,d⟩
    ·exact QI e t
def xQ [nF]{an f:Nat}(g:∀p P Q v,jz rs p P=some Q→aC β P v→aC β' Q v){p c i:aJ}{a:Act}(h:gr rs p c=some i)(d:cK an f β c a):cK an f β' i a:=by
 unfold gr at h;split at h
 ·cases h
 rename_i vs n;split at h
 ·cases h
 rename_i s o;cases h;refine⟨fun t=>?_,d.size,d.defers⟩;have b:=d.val t;simp only[aJ.get]at b⊢;cases j:Nat.blt t an with
 |true=>
  rw[j]at b;simp only[cg]at b⊢;obtain⟨h1,h2⟩:=QG n;cases l:vs[t]? with
  |none=>exact .aa _|some Q=>
   have m:t<c.vars.length:=by rw[←h1];exact(dW.1 l).1
   obtain⟨q,e⟩:=h2 t _ Q (bX m) l;rw[bX m]at b;exact g q _ Q _ e b
 |false=>
  rw[j]at b;simp only at b⊢;rcases QI o t with r|⟨q,e⟩
  ·rw[r];exact .aa _
  ·exact g q _ _ _ e b
end
end
section
variable [aR][aG]
variable{D:Type}{β:aE}{H:List ah}{w:World}{b:Code}{f:aJ→ai→Option (dK×aJ×ai)}{β':aE}{fJ:List ah}{w':World}{m:Mode}{F U:List ah}{W:Spec}{call:gd}{R:Option (List Nat)}{cs:List Bool}
def vE(m:Mode):Bool:=
 match m with
 |.ro=>false|_=>true
def FT:List ah→Bool
 |[]=>true|k::r=>
  match vE k.mode with
  |true=>FT r|false=>false
def JK(m:Mode):Bool:=
 match m with
 |.own=>true|_=>false
def si:List ah→List ah→List ah→Option (List ah)
 |[],_,a=>
  match FT a with
  |true=>some a|false=>none
 |h::H,c,a=>
  match c with
  |[]=>none|f::c=>
   match a with
   |[]=>none|k::a=>
    match si H c a with
    |none=>none|some r=>
     match JK f.mode with
     |true=>
      match vE k.mode with
      |true=>some (k::r)|false=>none
     |false=>some (h::r)
def QJ(h:vE m=true):m≠.ro:=by cases m<;>simp[vE]at h⊢
def QK:JK m=true↔m=.own:=by cases m<;>simp[JK]
def QL:∀{l:List ah},FT l=true→∀(i:Nat) k,l[i]? =some k→k.mode≠.ro
 |[],_,i,k,h=>by simp at h|d::r,a,i,k,h=>by
  simp only[FT]at a;split at a
  ·rename_i c;cases i with
   |zero=>simp at h;subst h;exact QJ c|succ i=>exact QL a i k (by simpa using h)
  ·cases a
def Ag:∀{H F U e:List ah},si H F U=some e→H.length≤F.length∧H.length≤U.length∧e.length=U.length∧
 ∀(b:Nat) k,e[b]? =some k→(U[b]? =some k∧k.mode≠.ro∧(b<H.length→∃f,F[b]? =some f∧f.mode=.own))∨(H[b]? =some k∧∃f,F[b]? =some f∧f.mode≠.own)
 |[],F,U,e,h=>by
  simp only[si]at h;split at h
  ·rename_i l;cases h;exact⟨j0 _,j0 _,rfl,fun b k a=>.inl ⟨a,QL l b k a,fun g=>by simp at g⟩⟩
  ·cases h
 |q::H,F,U,e,h=>by
  simp only[si]at h;cases F with
  |nil=>cases h
  |cons f F=>
  cases U with
  |nil=>cases h
  |cons s U=>
  simp only at h;split at h
  ·cases h
  rename_i r n;obtain⟨h1,h2,h3,h4⟩:=Ag n;split at h
  ·rename_i i;split at h
   ·rename_i o;cases h;refine⟨by simp;omega,by simp;omega,by simp[h3],fun b k a=>?_⟩;cases b with
    |zero=>simp at a;subst a;exact .inl ⟨rfl,QJ o,fun _=>⟨f,rfl,QK.1 i⟩⟩|succ b=>
     rcases h4 b k (by simpa using a)with⟨c,d,j⟩|⟨c,d⟩
     ·exact .inl ⟨by simpa using c,d,fun g=>by simpa using j (by simpa using g)⟩
     ·exact .inr ⟨by simpa using c,by simpa using d⟩
   ·cases h
  ·rename_i i;cases h;refine⟨by simp;omega,by simp;omega,by simp[h3],fun b k a=>?_⟩;cases b with
   |zero=>simp at a;subst a;exact .inr ⟨rfl,f,rfl,fun p=>by rw[QK.2 p]at i;cases i⟩
   |succ b=>
    rcases h4 b k (by simpa using a)with⟨c,d,j⟩|⟨c,d⟩
    ·exact .inl ⟨by simpa using c,d,fun g=>by simpa using j (by simpa using g)⟩
    ·exact .inr ⟨by simpa using c,by simpa using d⟩
structure gl(n0:Nat)(β:aE)(H:List ah)(w:World)(β':aE)(fJ:List ah)(w':World):Prop where
 le:aE.le β β'
 len:n0≤fJ.length
 os:w'.os=w.os
 tape:w'.tape=w.tape
 output:w'.output=w.output
 size:w.heap.size≤w'.heap.size
 kept:∀c,c<w.heap.size→¬Own β H c→bL c w w'
 own:∀c,c<w.heap.size→Own β' fJ c→Own β H c
 old:∀b,b<n0→β' b=β b
def bJ.q{n0:Nat}(h:bJ β H w β' fJ w')(a:n0≤H.length):gl n0 β H w β' fJ w':=
 ⟨h.le,ga a h.len,h.os,h.tape,h.output,h.size,h.kept,h.own,fun b c=>h.old b (by omega)⟩
def gl.trans{n0:Nat}{e:aE}{g:List ah}{i:World}(h:gl n0 β H w β' fJ w')(k:bJ β' fJ w' e g i):gl n0 β H w e g i where
 le:=aE.le_trans h.le k.le
 len:=ga h.len k.len
 os:=k.os.trans h.os
 tape:=k.tape.trans h.tape
 output:=k.output.trans h.output
 size:=ga h.size k.size
 kept c a j:=(h.kept c a j).trans (k.kept c (dN a h.size) (fun d=>j (h.own c a d)))
 own c a d:=h.own c a (k.own c (dN a h.size) d)
 old b l:=(k.old b (dN l h.len)).trans (h.old b l)
def gl.wk{n0:Nat}{d:aE}{e:List ah}{g:World}(h:gl n0 d e g β H w)(k:∀b a,d b=some a→b<n0)(h1:∀b,b<n0→β' b=β b)(h2:n0≤fJ.length)(h3:∀c,Own β' fJ c→Own β H c):gl n0 d e g β' fJ w:=
 ⟨fun b a i=>by rw[h1 b (k b a i)];exact h.le b a i,h2,h.os,h.tape,h.output,h.size,h.kept,fun c l n=>h.own c l (h3 c n),fun b j=>(h1 b j).trans (h.old b j)⟩
section
variable{G:Nat→Option (List af)}
def FU{E:List ah}(t:aM G β H w)(ap:aM G β F w)(Z:∀(b:Nat) k a,F[b]? =some k→k.mode=.own→β b=some a→∃n,H[b]? =some n∧n.mode=.own)
 (x:aM G β' U w') (i:gl H.length β F w β' U w') (aa:si H F U=some E):aM G β' E w'∧bJ β H w β' E w':=by
 obtain⟨aq,ar,ab,u⟩:=Ag aa;have v:∀{b:Nat} {k:ah},H[b]? =some k→b<H.length:=fun h=>(dW.1 h).1;have q:∀b,b<H.length→β' b=β b:=fun b I=>i.old b I;have M:∀c,Own β F c→∃(b:Nat) (n f:ah) (a:Loc),H[b]? =some n∧n.mode=.own∧β b=some a∧a.c=c∧F[b]? =some f∧f.mode=.own:=by
  rintro c ⟨b,k,a,h1,h2,h3,h4⟩;obtain⟨n,J,ad⟩:=Z b k a h1 h2 h3;exact⟨b,n,k,a,J,ad,h3,h4,h1,h2⟩
 have N:∀c,Own β F c→Own β H c:=by
  intro c y;obtain⟨b,n,f,a,h1,h2,h3,h4,_⟩:=M c y;exact⟨b,n,a,h1,h2,h3,h4⟩
 have K:∀(b:Nat) k a,H[b]? =some k→k.mode.alive→β b=some a→(∃f,F[b]? =some f∧f.mode≠.own)→¬Own β F a.c:=by
  rintro b k a h1 h2 h3 ⟨f,h4,J⟩ g;obtain⟨cr,ae,au,ag,d,z,L,bf,B,aj⟩:=M _ g;refine t.dL cr b ae k ag a (fun A=>?_) d h1 z h2 L h3 bf;subst A;rw[h4]at B;injection B with B;subst B;exact J aj
 refine⟨⟨fun b k r j=>?_,fun b o k p a C O r Q g j e s=>?_,fun b a e=>by rw[ab];exact x.fl b a e,x.dA,fun b k a r g e=>?_⟩,
  ⟨i.le,by omega,i.os,i.tape,i.output,i.size,fun c y ak=>i.kept c y (fun g=>ak (N c g)),fun c y ⟨b,k,a,r,g,e,S⟩=>?_,fun b I=>q b I⟩⟩
 ·rcases u b k r with⟨d,_,_⟩|⟨d,z⟩
  ·exact x.blk b k d j
  ·rcases t.blk b k d j with⟨a,e,T⟩|⟨al,am⟩
   ·exact .inl ⟨a,i.le b a e,T.mono i.le i.size (i.kept _ (T.lt j) (K b k a d j e z))⟩
   ·exact .inr ⟨al,by rw[q b (v d)];exact am⟩
 ·rcases u b k r with⟨d,_,_⟩|⟨d,z⟩
  ·rcases u o p Q with⟨l,_,_⟩|⟨l,X⟩
   ·exact x.dL b o k p a C O d l g j e s
   ·rw[q o (v l)]at s;intro A;refine K o p C l j s X (i.own _ (t.lt l j s) ⟨b,k,a,d,g,e,A⟩)
  ·rw[q b (v d)]at e;rcases u o p Q with⟨l,L,_⟩|⟨l,X⟩
   ·intro A;have ao:p.mode=.own:=by
     cases Y:p.mode with
     |own=>rfl|ro=>exact absurd Y L|bn=>exact absurd Y j
    exact K b k a d (eo g) e z (i.own _ (t.lt d (eo g) e) ⟨o,p,C,l,ao,s,A.symm⟩)
   ·rw[q o (v l)]at s;exact t.dL b o k p a C O d l g j e s
 ·rcases u b k r with⟨d,_,_⟩|⟨d,_⟩
  ·exact x.apart b k a d g e
  ·rw[q b (v d)]at e;exact t.apart b k a d g e
 ·rcases u b k r with⟨d,_,_⟩|⟨d,_⟩
  ·exact N c (i.own c y ⟨b,k,a,d,g,e,S⟩)
  ·rw[q b (v d)]at e;exact⟨b,k,a,d,g,e,S⟩
def FV{cH g:List ah}(i:∀k∈cH,k.data.len=0)(d:aM G β H w)(h:eW g (H++cH)=some F):
 aM G β F w∧(∀(b:Nat) k c,F[b]? =some k→k.mode=.own→β b=some c→∃a,H[b]? =some a∧a.mode=.own)∧H.length≤F.length:=by
 obtain⟨j,_⟩:=d.QE i;obtain⟨l,bf⟩:=j.JJ h;refine⟨l,fun b k c n o p=>?_,by rw[(tM h).1,fB];omega⟩;obtain⟨a,e,q⟩:=bf b k n o;have:=d.fl b c p;rw[gV this]at e;exact⟨a,e,q⟩
end
def iter{D:Type}(f:D→D):Nat→D→D|0,d=>d|n+1,d=>iter f n (f d)
def gG{D:Type}(f:D→D):∀(n:Nat) (d:D),iter f (n+1) d=f (iter f n d)|0,_=>rfl|n+1,d=>by rw[iter,gG f n (f d)];rfl
structure qR(D:Type)where
 parse:aJ→List ah→Option D
 cH:List ah
 az:D→aJ×List ah
 next:D→D
 rem:D→Nat
 aT:D→Bool
 out:dK
 fin:D→aJ×List ah
def qR.told(T:qR D):cP:=fun F S=>
 match T.parse F S.H with
 |none=>none|some d=>
  match si S.H (T.az d).2 (T.fin (iter T.next (T.rem d) d)).2 with
  |none=>none|some a=>some (T.out,(T.fin (iter T.next (T.rem d) d)).1,{H:=a,low:=0,dec:=S.dec,cond:=T.aT d::S.cond})
section
variable{P:Program}{G:Nat→Option (List af)}{an V:Nat}
def QM(T:qR D)(N:D→Nat)(aw:∀F H d,T.parse F H=some d→N d=H.length)(j:dg P G an V b f)
 (ax:∀k∈T.cH,k.data.len=0)
 (aU:∀F H d,T.parse F H=some d→gr none (T.az d).1 F=some (T.az d).1∧eW (T.az d).2 (H++T.cH)=some (T.az d).2)
 (aV:∀d k,T.aT d=true→T.rem d=k+1→∃s l e R,f (T.az d).1 ⟨(T.az d).2,bQ,s,[]⟩=some (.normal,l,e)∧e.ok∧
  gr R (T.az (T.next d)).1 l=some (T.az (T.next d)).1∧lW (N d) [] R (T.az (T.next d)).2 e.H=some (T.az (T.next d)).2∧T.aT (T.next d)=true∧T.rem (T.next d)=k∧N (T.next d)=N d)
 (aW:∀d,T.aT d=true→T.rem d=0→∃s l e R,f (T.az d).1 ⟨(T.az d).2,bQ,s,[]⟩=some (T.out,l,e)∧e.ok∧(T.out=.normal→False)∧
  gr R (T.fin d).1 l=some (T.fin d).1∧lW (N d) [] R (T.fin d).2 e.H=some (T.fin d).2):
 eF P G an V b T.told:=by
 intro F S bl l e h;unfold qR.told at h;split at h
 ·cases h
 rename_i d I;split at h
 ·cases h
 rename_i aX J;simp only[aD,aO]at h;obtain⟨rfl,rfl,rfl⟩:=h;obtain⟨aY,u⟩:=aU F S.H d I;obtain⟨bm,bn,bo,ay⟩:=Ag J;have bp:(T.az d).2.length=S.H.length+T.cH.length:=by rw[(tM u).1,fB]
 refine⟨⟨fun ok aA K=>ok aA (ng _ K),j0 _,by simp only;omega,fun b j aZ=>absurd aZ (oz _),fun b k g L=>?_,fun b k g L=>?_⟩,fun ok β a w a0 x Q aB=>?_⟩
 ·
   simp only[cg]at g⊢;have j:b<S.H.length:=(dW.1 g).1;have aC:b<aX.length:=by omega
   rcases ay b _ (bX aC)with⟨_,_,a1⟩|⟨y,_⟩
   ·obtain⟨a2,a3,a4⟩:=a1 j;obtain⟨bq,z,o⟩:=(tM u).2 b a2 a3;rw[gV j,g]at z;injection z with z;subst z;rcases o with o|⟨o,_⟩
    ·rw[a4]at o;cases o
    ·exact absurd L o
   ·rw[g]at y;rw[y,bX aC]
 ·simp only[cg]at g⊢;rcases ay b k g with⟨_,a5,_⟩|⟨y,_⟩
  ·exact absurd L a5
  ·exact y
 ·have a6:T.aT d=true:=ok _ (lK ..);obtain⟨aF,a7,a8⟩:=FV ax x u;obtain⟨br,_,_,_,_,bs⟩:=xP (n0:=0) (cH:=T.cH) (rs:=none) (ps:=(T.az d).2) ax (by simp only[lW];exact u) (j0 _) x;have a9:cK an V β (T.az d).1 a:=by
   refine xQ (β:=β) (β':=β) (rs:=none) (fun p aA bt v r K=>?_) aY a0;unfold jz at r;split at r
   ·injection r with r;subst r;exact .aa _
   ·exact xO K r
  have aH:∀b ba,β b=some ba→b<S.H.length:=x.fl;refine Qq (fun n A w'=>∃c β',n=T.rem c∧T.aT c=true∧iter T.next (T.rem c) c=iter T.next (T.rem d) d∧N c=N d∧cK an V β' (T.az c).1 A∧aM G β' (T.az c).2 w'∧gl S.H.length β (T.az d).2 w β' (T.az c).2 w')
   (n:=T.rem d) ⟨d,β,rfl,a6,rfl,rfl,a9,aF,(bJ.refl ..).q a8⟩ ?_
  rintro n A w' ⟨c,β',rfl,aI,aK,M,aL,aN,B⟩;cases C:T.rem c with
  |zero=>
   obtain⟨s,bb,O,R,X,Y,bc,Z,t⟩:=aW c aI C;have aa:N c=S.H.length:=M.trans (aw F S.H d I);rw[aa]at t;obtain⟨ab,ad⟩:=j _ _ _ _ _ X;refine ad Y β' A w' aL aN _ fun aP aQ bd ae ag aj=>?_;have ak:S.H.length≤O.H.length:=by have bf:=B.len;have:=ab.len;simp only at this;omega
   obtain⟨al,am,ao,ap,aq,ar⟩:=xP (n0:=S.H.length) (cH:=[]) (by simp) t ak ag;have au:=xQ ar Z ae;have bg:T.fin (iter T.next (T.rem d) d)=T.fin c:=by rw[←aK,C];rfl
   rw[bg]at J aB;obtain⟨bh,bi⟩:=FU x aF a7 am ((B.trans aj).wk aH ao ap aq) J;have E:=aB aP aQ al au bh bi;cases av:T.out with
   |normal=>exact absurd av bc|exit i=>rw[av]at E;exact E|ret=>rw[av]at E;exact E
  |succ k=>
   obtain⟨s,bb,O,R,X,Y,Z,t,bj,aS,bk⟩:=aV c k aI C;have aa:N c=S.H.length:=M.trans (aw F S.H d I);rw[aa]at t;obtain⟨ab,ad⟩:=j _ _ _ _ _ X;refine ad Y β' A w' aL aN _ fun aP aQ bd ae ag aj=>?_;have ak:S.H.length≤O.H.length:=by have bf:=B.len;have:=ab.len;simp only at this;omega
   obtain⟨al,am,ao,ap,aq,ar⟩:=xP (n0:=S.H.length) (cH:=[]) (by simp) t ak ag;have au:=xQ ar Z ae;refine⟨k,N8 k,T.next c,al,aS.symm,bj,?_,bk.trans M,au,am,(B.trans aj).wk aH ao ap aq⟩;rw[←aK,C,aS];rfl
def aaA(T:qR D)(i:dg P G an V b f)
 (j:∀k∈T.cH,k.data.len=0)
 (g:∀F H d,T.parse F H=some d→gr none (T.az d).1 F=some (T.az d).1∧eW (T.az d).2 (H++T.cH)=some (T.az d).2)
 (l:∀d k,T.aT d=true→T.rem d=k+1→∃e c a R,f (T.az d).1 ⟨(T.az d).2,bQ,e,[]⟩=some (.normal,c,a)∧a.ok∧
  gr R (T.az (T.next d)).1 c=some (T.az (T.next d)).1∧lW ((T.az d).2.length-T.cH.length) [] R (T.az (T.next d)).2 a.H=some (T.az (T.next d)).2∧T.aT (T.next d)=true∧T.rem (T.next d)=k∧(T.az (T.next d)).2.length=(T.az d).2.length)
 (n:∀d,T.aT d=true→T.rem d=0→∃e c a R,f (T.az d).1 ⟨(T.az d).2,bQ,e,[]⟩=some (T.out,c,a)∧a.ok∧(T.out=.normal→False)∧
  gr R (T.fin d).1 c=some (T.fin d).1∧lW ((T.az d).2.length-T.cH.length) [] R (T.fin d).2 a.H=some (T.fin d).2):
 eF P G an V b T.told:=by
 refine QM T (fun d=>(T.az d).2.length-T.cH.length) (fun F H d h=>?_) i j g (fun d k h1 h2=>?_) n
 ·have:=(tM (g F H d h).2).1;simp only[this,fB];omega
 ·obtain⟨e,c,a,R,o,p,q,bf,r,s,t⟩:=l d k h1 h2;exact⟨e,c,a,R,o,p,q,bf,r,s,by rw[t]⟩
def dF.run{f:FuncId}(y:fV P G call)
 (h:∀args H a r,W args H a=some r→(∀j∈r.cond,j=true)→∃l n e fJ o v' d R U,lA none l args=some e∧eW n H=some fJ∧call f e ⟨fJ,bQ,o,[]⟩=some (v',d)∧d.ok∧
  lW H.length [] R U d.H=some U∧jz R r.v v'=some r.v∧si H fJ U=some r.H)
 (z:∀args H a r,W args H a=some r→∀(i:Nat) k,r.H[i]? =some k→k.mode=.ro→∃s,H[i]? =some s∧s.mode=.ro):dF P G f W:=by
 intro args H a r t;refine⟨z args H a r t,fun A β w vs B g=>?_⟩;obtain⟨l,n,e,fJ,o,v',d,R,U,h1,h2,h3,h4,C,E,I⟩:=h args H a r t A;obtain⟨x,J,K⟩:=FV (cH:=[]) (by simp) g (by rw[uG];exact h2);obtain⟨L,M⟩:=y _ _ _ _ _ h3;have N:aK β e vs:=by
  refine QH (β:=β) (rs:=none) (fun p j am v c O=>?_) h1 B;unfold jz at c;split at c
  ·injection c with c;subst c;exact .aa _
  ·exact xO O c
 obtain⟨Q,S⟩:=M h4 β w vs N x;refine⟨Q,S.mono ?_⟩;rintro ao w' ⟨u,ap,rfl,T,X,Y⟩;have Z:H.length≤d.H.length:=by have:=L.len;simp only at this;omega
 obtain⟨aa,ab,ad,ae,ag,aj⟩:=xP (n0:=H.length) (cH:=[]) (by simp) C Z X;obtain⟨ak,al⟩:=FU g x J ab ((Y.q K).wk g.fl ad ae ag) I;exact⟨u,aa,rfl,aj _ _ _ _ E T,ak,al⟩
end
def qS(n0:Nat)(R:Option (List Nat))(U:List ah)(v:af)(r:Option (af×ai)):Option (List ah×af×List Bool):=
 match r with
 |none=>none|some (v',a)=>
  match lW n0 [] R U a.H with
  |none=>none|some c=>
   match jz R v v' with
   |none=>none|some v=>some (c,v,a.cond)
def aaB{n0:Nat}{c:List ah}{v u:af}{r:Option (af×ai)}(h:qS n0 R U v r=some (c,u,cs)):
 ∃v' a,r=some (v',a)∧lW n0 [] R U a.H=some c∧jz R v v'=some u∧a.cond=cs:=by
 unfold qS at h;split at h
 ·cases h
 ·rename_i v' a;split at h
  ·cases h
  ·rename_i g d;split at h
   ·cases h
   ·rename_i i e;simp only[aD,aO]at h;obtain⟨rfl,rfl,rfl⟩:=h;exact⟨v',a,rfl,d,e,rfl⟩
def dF.ends{P:Program}{G:Nat→Option (List af)}{f:FuncId}(n:fV P G call)
 (h:∀args H a r,W args H a=some r→(∀c∈r.cond,c=true)→∃e g d fJ j R U cs,lA none e args=some d∧eW g H=some fJ∧qS H.length R U r.v (call f d ⟨fJ,bQ,j,[]⟩)=some (U,r.v,cs)∧
  (∀c∈cs,c=true)∧si H fJ U=some r.H)
 (o:∀args H a r,W args H a=some r→∀(i:Nat) k,r.H[i]? =some k→k.mode=.ro→∃l,H[i]? =some l∧l.mode=.ro):dF P G f W:=by
 refine dF.run n (fun args H a r p q=>?_) o;obtain⟨e,g,d,fJ,j,R,U,cs,h1,h2,h3,h4,s⟩:=h args H a r p q;obtain⟨v',t,u,x,y,z⟩:=aaB h3;exact⟨e,g,d,fJ,j,v',t,R,U,h1,h2,u,fun c A=>h4 c (by rw[←z];exact A),x,y,s⟩
def eu(n0:Nat)(R:Option (List Nat))(p:aJ×List ah)(r:Option (dK×aJ×ai)):Option (dK×(aJ×List ah)×List Bool):=
 match r with
 |none=>none|some (c,d,a)=>
  match gr R p.1 d with
  |none=>none|some F=>
   match lW n0 [] R p.2 a.H with
   |none=>none|some H=>some (c,(F,H),a.cond)
def tN{n0:Nat}{p q:aJ×List ah}{r:Option (dK×aJ×ai)}{d:dK}(h:eu n0 R p r=some (d,q,cs)):
 ∃c a,r=some (d,c,a)∧gr R p.1 c=some q.1∧lW n0 [] R p.2 a.H=some q.2∧a.cond=cs:=by
 unfold eu at h;split at h
 ·cases h
 ·rename_i i c a;split at h
  ·cases h
  ·rename_i F e;split at h
   ·cases h
   ·rename_i H g;simp only[aD,aO]at h;obtain⟨rfl,rfl,rfl⟩:=h;exact⟨c,a,rfl,e,g,rfl⟩
def aaC{P:Program}{G:Nat→Option (List af)}{an V:Nat}(T:qR D)(N:D→Nat)(q:∀F H d,T.parse F H=some d→N d=H.length)(r:dg P G an V b f)
 (s:∀k∈T.cH,k.data.len=0) (t:T.out=.normal→False)
 (u:∀F H d,T.parse F H=some d→gr none (T.az d).1 F=some (T.az d).1∧eW (T.az d).2 (H++T.cH)=some (T.az d).2)
 (v:∀d k,T.aT d=true→T.rem d=k+1→(∃a R cs,eu (N d) R (T.az (T.next d)) (f (T.az d).1 ⟨(T.az d).2,bQ,a,[]⟩)=some (.normal,T.az (T.next d),cs)∧(∀c∈cs,c=true))∧
  T.aT (T.next d)=true∧T.rem (T.next d)=k∧N (T.next d)=N d)
 (x:∀d,T.aT d=true→T.rem d=0→∃a R cs,eu (N d) R (T.fin d) (f (T.az d).1 ⟨(T.az d).2,bQ,a,[]⟩)=some (T.out,T.fin d,cs)∧(∀c∈cs,c=true)):
 eF P G an V b T.told:=by
 refine QM T N q r s u (fun d k h1 h2=>?_) (fun d h1 h2=>?_)
 ·obtain⟨⟨a,R,cs,e,g⟩,y,bf,z⟩:=v d k h1 h2;obtain⟨h,i,j,l,n,o⟩:=tN e;exact⟨a,h,i,R,j,fun c p=>g c (by rw[←o];exact p),l,n,y,bf,z⟩
 ·obtain⟨a,R,cs,e,g⟩:=x d h1 h2;obtain⟨h,i,j,l,n,o⟩:=tN e;exact⟨a,h,i,R,j,fun c p=>g c (by rw[←o];exact p),t,l,n⟩
def QN{P:Program}{G:Nat→Option (List af)}{an V:Nat}(T:qR D)(q:dg P G an V b f)
 (r:∀k∈T.cH,k.data.len=0) (s:T.out=.normal→False)
 (t:∀F H d,T.parse F H=some d→gr none (T.az d).1 F=some (T.az d).1∧eW (T.az d).2 (H++T.cH)=some (T.az d).2)
 (u:∀d k,T.aT d=true→T.rem d=k+1→(∃a R cs,eu ((T.az d).2.length-T.cH.length) R (T.az (T.next d)) (f (T.az d).1 ⟨(T.az d).2,bQ,a,[]⟩)=some (.normal,T.az (T.next d),cs)∧(∀c∈cs,c=true))∧
  T.aT (T.next d)=true∧T.rem (T.next d)=k∧(T.az (T.next d)).2.length=(T.az d).2.length)
 (v:∀d,T.aT d=true→T.rem d=0→∃a R cs,eu ((T.az d).2.length-T.cH.length) R (T.fin d) (f (T.az d).1 ⟨(T.az d).2,bQ,a,[]⟩)=some (T.out,T.fin d,cs)∧(∀c∈cs,c=true)):
 eF P G an V b T.told:=by
 refine aaA T q r t (fun d k h1 h2=>?_) (fun d h1 h2=>?_)
 ·obtain⟨⟨a,R,cs,e,g⟩,x,bf,y⟩:=u d k h1 h2;obtain⟨h,i,j,l,n,o⟩:=tN e;exact⟨a,h,i,R,j,fun c p=>g c (by rw[←o];exact p),l,n,x,bf,y⟩
 ·obtain⟨a,R,cs,e,g⟩:=v d h1 h2;obtain⟨h,i,j,l,n,o⟩:=tN e;exact⟨a,h,i,R,j,fun c p=>g c (by rw[←o];exact p),s,l,n⟩
def aaD{P:Program}{G:Nat→Option (List af)}{an V:Nat}(T:qR D)(e:dg P G an V b f)
 (g:∀k∈T.cH,k.data.len=0) (h:T.out=.normal→False)
 (i:∀F H d,T.parse F H=some d→gr none (T.az d).1 F=some (T.az d).1∧eW (T.az d).2 (H++T.cH)=some (T.az d).2)
 (j:∀d k,T.aT d=true→T.rem d=k+1→(∃a R cs,eu ((T.az d).2.length-T.cH.length) R (T.az (T.next d)) (f (T.az d).1 ⟨(T.az d).2,bQ,a,[]⟩)=some (.normal,T.az (T.next d),cs)∧(∀c∈cs,c=true))∧
  T.aT (T.next d)=true∧T.rem (T.next d)=k∧(T.az (T.next d)).2.length=(T.az d).2.length)
 (l:∀d,T.aT d=true→T.rem d=0→∃a R cs,eu ((T.az d).2.length-T.cH.length) R (T.fin d) (f (T.az d).1 ⟨(T.az d).2,bQ,a,[]⟩)=some (T.out,T.fin d,cs)∧(∀c∈cs,c=true)):
 dg P G an V (.loop b) T.told:=(QN T e g h i j l).run
def oY:Nat→Code→Bool
 |0,_=>false|n+1,c=>
  match c with
  |.seq a b=>
   match oY n a with
   |true=>oY n b|false=>false
  |.cond _ a b=>
   match oY n a with
   |true=>oY n b|false=>false
  |.block _ b=>oY n b|.loop b=>oY n b|_=>true
def aaE:∀(U:Nat) (c:Code),oY U c=true→∀k,∀b∈cT k c,b∈cT U c:=by
 intro U
 induction U with
 |zero=>intro c h;simp[oY]at h|succ U e=>
  intro c h k b a;cases k with
  |zero=>simp[cT]at a|succ k=>
   cases c with
   |seq d g=>
    simp only[oY]at h;split at h
    ·rename_i j;simp only[cT,fQ]at a⊢;rcases a with a|a
     ·exact .inl (e d j k b a)
     ·exact .inr (e g h k b a)
    ·cases h
   |cond t d g=>
    simp only[oY]at h;split at h
    ·rename_i j;simp only[cT,fQ]at a⊢;rcases a with a|a
     ·exact .inl (e d j k b a)
     ·exact .inr (e g h k b a)
    ·cases h
   |block i d=>
    simp only[oY]at h;simp only[cT]at a⊢;exact e d h k b a
   |loop d=>
    simp only[oY]at h;simp only[cT,jJ]at a⊢;rcases a with a|a
    ·exact .inl a
    ·exact .inr (e d h k b a)
   |_=>simp[cT]at a
end
section
variable [aR][aG]
def Ah(m:Mode):Bool:=
 match m with
 |.bn=>true|_=>false
def fW(a b:Spec):Spec:=fun args c d=>
 match a args c d with
 |some r=>some r|none=>b args c d
def dF.or{P:Program}{G:Nat→Option (List af)}{f:FuncId}{a b:Spec}(g:dF P G f a)(i:dF P G f b):dF P G f (fW a b):=by
 intro args d e r c;unfold fW at c;split at c
 ·rename_i j h;injection c with c;subst c;exact g args d e _ h
 ·exact i args d e r c
end
section
variable [aR][aG]
variable{C:eJ}{G:Nat→Option (List af)}
def aaF{P:Program}{j:Nat}{dyn:Nat→Bool}:∀(n:Nat) (c:Code),codeOk P j dyn n c=true→∀k,∀b∈cT k c,∃m,codeOk P j dyn m b=true:=by
 intro n
 induction n with
 |zero=>intro c h;simp[codeOk]at h|succ n e=>
  intro c h k b a;cases k with
  |zero=>simp[cT]at a|succ k=>
   cases c with
   |seq d f=>
    simp only[codeOk]at h;split at h
    ·rename_i g;simp only[cT,fQ]at a;rcases a with a|a
     ·exact e d g k b a
     ·exact e f h k b a
    ·cases h
   |cond t d f=>
    simp only[codeOk]at h;split at h
    ·rename_i g;simp only[cT,fQ]at a;rcases a with a|a
     ·exact e d g k b a
     ·exact e f h k b a
    ·cases h
   |block i d=>
    simp only[codeOk]at h;simp only[cT]at a;exact e d h k b a
   |loop d=>
    simp only[codeOk]at h;simp only[cT,jJ]at a;rcases a with rfl|a
    ·exact⟨n,h⟩
    ·exact e d h k b a
   |_=>simp[cT]at a
def aaG:∀(k:Nat) (c b:Code),b∈cT k c→∀d,∀cr∈cT d b,∃a,cr∈cT a c:=by
 intro k
 induction k with
 |zero=>intro c b h;simp[cT]at h|succ k f=>
  intro c b h d cr h2;cases c with
  |seq e g=>
   simp only[cT,fQ]at h;rcases h with h|h
   ·obtain⟨a,h3⟩:=f e b h d cr h2;exact⟨a+1,by simp only[cT,fQ];exact .inl h3⟩
   ·obtain⟨a,h3⟩:=f g b h d cr h2;exact⟨a+1,by simp only[cT,fQ];exact .inr h3⟩
  |cond t e g=>
   simp only[cT,fQ]at h;rcases h with h|h
   ·obtain⟨a,h3⟩:=f e b h d cr h2;exact⟨a+1,by simp only[cT,fQ];exact .inl h3⟩
   ·obtain⟨a,h3⟩:=f g b h d cr h2;exact⟨a+1,by simp only[cT,fQ];exact .inr h3⟩
  |block i e=>
   simp only[cT]at h;obtain⟨a,h3⟩:=f e b h d cr h2;exact⟨a+1,by simp only[cT];exact h3⟩
  |loop e=>
   simp only[cT,jJ]at h;rcases h with rfl|h
   ·exact⟨d+1,by simp only[cT,jJ];exact .inr h2⟩
   ·obtain⟨a,h3⟩:=f e b h d cr h2;exact⟨a+1,by simp only[cT,jJ];exact .inr h3⟩
  |_=>simp[cT]at h
def c8(P:Program)(f:FuncId):Code:=
 match P.funcs[f]? with
 |some fn=>
  match fn.body with
  |some c=>c|none=>.skip
 |none=>.skip
def bS(P:Program)(f:FuncId):Nat:=
 match P.funcs[f]? with
 |some fn=>fn.ntmps|none=>0
def cI(P:Program)(f:FuncId):List Code:=cT 300 (c8 P f)
def bh(P:Program)(f i:Nat):Code:=(cI P f).getD i .skip
def aaH [lV C](j:C.dA=G){call:gd}(l:fV C.P G call)(n:oW C.P C.gx)(o:C.P.follows .mixedOrders=true)(p:c6 C G){f:FuncId}(a:qQ C f=true)(e i:Nat)(hi:i<(cI C.P f).length):
 dg C.P G (C.an f) (bS C.P f) (bh C.P f i) (exec C e (bh C.P f i) ⟨call,C.an f,C.eD f,C.dyn f,C.loop f⟩):=by
 have d:bh C.P f i∈cI C.P f:=by
  unfold bh;rw[dY,bX hi];exact V9 hi
 revert d;generalize bh C.P f i=b;intro d;unfold qQ at a;unfold cI c8 at d;unfold bS;split at a
 ·cases a
 rename_i fn g;split at a
 ·cases a
 rename_i c h;split at a
 ·cases a
 simp only[g,h]at d⊢;obtain⟨m,q⟩:=aaF _ _ a _ _ d;exact FQ (C:=C) (G:=G) (bE:=fn.ntmps) j (E:=⟨call,C.an f,C.eD f,C.dyn f,C.loop f⟩) l n o e m _ q (fun k cr r s t=>by
  obtain⟨u,h3⟩:=aaG _ _ _ d k cr r;exact p f fn c g h u cr h3 s t)
def c6.of(h:∀f,(∀r,C.loop f r=Option.none)∨(oY 300 (c8 C.P f)=true∧∀i,i<(cI C.P f).length→∀d,(bY (bh C.P f i)).bind (C.loop f)=some d→dg C.P G (C.an f) (bS C.P f) (.loop (bh C.P f i)) d)):c6 C G:=by
 intro f fn c e n k b o d a;have g:c8 C.P f=c:=by simp only[c8,e,n]
 have p:bS C.P f=fn.ntmps:=by simp only[bS,e]
 rcases h f with h|⟨h1,h2⟩
 ·cases j:bY b with
  |none=>rw[j]at a;cases a
  |some r=>rw[j]at a;simp[h]at a
 ·rw[g]at h1;have q:=aaE 300 c h1 k b o;obtain⟨i,hi,rfl⟩:=List.getElem_of_mem q;have l:cI C.P f=cT 300 c:=by simp only[cI,g]
  have m:bh C.P f i=(cT 300 c)[i]:=by
   unfold bh;rw[l,dY,bX hi];rfl
  have:=h2 i (by rw[l];exact hi) d (by rw[m];exact a);rw[m,p]at this;exact this
end
section
variable [aR][aG]
def CP(m n b:Nat):Nat:=
 match Nat.beq b m with
 |true=>n|false=>b
def FW(f:Nat→Nat):List (Nat×af)→List (Nat×af)|[]=>[]|(k,v)::r=>(k,oJ f v)::FW f r
def CQ(f:Nat→Nat)(a:aJ):aJ:=⟨lN f a.vars,FW f a.tmps⟩
def JL(m:Nat)(d:Data)(S:ai):ai:={S with H:=fc ⟨.gen [],.bn⟩ m S.H++[⟨d,.own⟩],low:=Nat.min S.low m}
def QO(f:Nat→Nat)(t:Nat):∀l:List (Nat×af),kM t (FW f l)=oJ f (kM t l)
 |[]=>rfl|(k,v)::r=>by
  simp only[FW,kM];split
  ·rfl
  ·exact QO f t r
def aaI(f:Nat→Nat)(an:Nat)(a:aJ)(t:Nat):(CQ f a).get an t=oJ f (a.get an t):=by
 unfold aJ.get CQ;split
 ·simp only[vC,cg,ef];cases a.vars[t]? <;>rfl
 ·exact QO f t a.tmps
section
variable{G:Nat→Option (List af)}{β:aE}{w:World}
def qT(β:aE)(m n:Nat):aE:=fun b=>if b=n then β m else β b
def aaJ{m:Nat}{d:Data}{S:ai}(i:aM G β S.H w)(q:S.H[m]? =some ⟨d,.own⟩):
 aE.le β (qT β m S.H.length)∧aM G (qT β m S.H.length) (JL m d S).H w∧bJ β S.H w (qT β m S.H.length) (JL m d S).H w∧∀b e,β b=some e→qT β m S.H.length (CP m S.H.length b)=some e:=by
 have K:m<S.H.length:=by
  rcases cu m S.H.length with h|h
  ·exact h
  ·rw[dz h]at q;cases q
 have v:aE.le β (qT β m S.H.length):=fun b e a=>by
  have:=i.fl b e a;unfold qT;rw[ak (by omega)];exact a
 have r:∀b k,(JL m d S).H[b]? =some k→(b=m∧k=⟨.gen [],.bn⟩)∨(b=S.H.length∧k=⟨d,.own⟩)∨(b≠m∧b<S.H.length∧S.H[b]? =some k):=by
  intro b k a
  show _∨_∨_;have a:(fc ⟨.gen [],.bn⟩ m S.H++[⟨d,.own⟩])[b]? =some k:=a;rw[iN]at a;rcases cu b S.H.length with h|h
  ·rw[gV (by rw[lJ];exact h)]at a;by_cases j:b=m
   ·subst j;rw[pL h]at a;injection a with a;exact .inl ⟨rfl,a.symm⟩
   ·rw[mw (fC j)]at a;exact .inr (.inr ⟨j,h,a⟩)
  ·rw[gL (by rw[lJ];exact h),lJ]at a;have:b-S.H.length=0:=by
    rcases qx (b-S.H.length)with h|h
    ·exact h
    ·rw[dz (by simp;omega)]at a;cases a
   rw[this]at a;simp at a;exact .inr (.inl ⟨by omega,a.symm⟩)
 have n:∀b,b≠S.H.length→qT β m S.H.length b=β b:=fun b a=>ak a;have s:qT β m S.H.length S.H.length=β m:=ax rfl;refine⟨v,⟨fun b k a o=>?_,fun b t k x e z B a C p o f u=>?_,fun b e a=>?_,i.dA,fun b k e a p f g l D=>?_⟩,⟨v,?_,rfl,rfl,rfl,aV _,fun _ _ _=>bL.refl _ _,fun c L p=>?_,fun b a=>n b (by omega)⟩,fun b e a=>?_⟩
 ·rcases r b k a with⟨_,rfl⟩|⟨rfl,rfl⟩|⟨h1,h2,h3⟩
  ·exact absurd rfl o
  ·rw[s];rcases i.blk m _ q o with⟨e,f,cR⟩|h
   ·exact .inl ⟨e,f,cR.mono v (aV _) (bL.refl _ _)⟩
   ·exact .inr h
  ·rw[n b (by omega)];rcases i.blk b k h3 o with⟨e,f,cR⟩|h
   ·exact .inl ⟨e,f,cR.mono v (aV _) (bL.refl _ _)⟩
   ·exact .inr h
 ·rcases r b k a with⟨_,rfl⟩|⟨rfl,rfl⟩|⟨h1,h2,h3⟩
  ·cases p
  ·rcases r t x C with⟨_,rfl⟩|⟨rfl,rfl⟩|⟨E,I,A⟩
   ·exact absurd rfl o
   ·exact absurd rfl B
   ·rw[s]at f;rw[n t (by omega)]at u;exact i.dL m t _ x e z (fC E) q A rfl o f u
  ·rcases r t x C with⟨_,rfl⟩|⟨rfl,rfl⟩|⟨E,I,A⟩
   ·exact absurd rfl o
   ·rw[s]at u;rw[n b (by omega)]at f;exact i.dL b m k _ e z h1 h3 q p o f u
   ·rw[n b (by omega)]at f;rw[n t (by omega)]at u;exact i.dL b t k x e z B h3 A p o f u
 ·show b<(fc (⟨.gen [],.bn⟩:ah) m S.H++[(⟨d,.own⟩:ah)]).length;rw[iN,fB,lJ];by_cases j:b=S.H.length
  ·subst j;simp
  ·rw[n b j]at a;have:=i.fl b e a;omega
 ·rcases r b k a with⟨_,rfl⟩|⟨rfl,rfl⟩|⟨h1,h2,h3⟩
  ·cases p
  ·rw[s]at f;exact i.apart m _ e q rfl f g l D
  ·rw[n b (by omega)]at f;exact i.apart b k e h3 p f g l D
 ·show S.H.length≤(fc (⟨.gen [],.bn⟩:ah) m S.H++[(⟨d,.own⟩:ah)]).length;rw[iN,fB,lJ];omega
 ·obtain⟨b,k,e,J,F,y,dr⟩:=p;rcases r b k J with⟨_,rfl⟩|⟨rfl,rfl⟩|⟨h1,h2,h3⟩
  ·cases F
  ·rw[s]at y;exact⟨m,_,e,q,rfl,y,dr⟩
  ·rw[n b (by omega)]at y;exact⟨b,k,e,h3,F,y,dr⟩
 ·unfold CP;split
  ·rename_i j;have j:b=m:=by simpa using j
   subst j;rw[s];exact a
  ·rw[n b (by have:=i.fl b e a;omega)];exact a
structure CR(D:Type)where
 T:qR D
 m:Nat
 lB:D→aJ×List ah
def CR.told{D:Type}(M:CR D):cP:=fun a S=>
 match M.T.parse a S.H with
 |none=>none|some d=>
  match si S.H (M.lB d).2 (M.T.fin (iter M.T.next (M.T.rem d) d)).2 with
  |none=>none|some b=>some (M.T.out,(M.T.fin (iter M.T.next (M.T.rem d) d)).1,{H:=b,low:=0,dec:=S.dec,cond:=M.T.aT d::S.cond})
def aaK{P:Program}{an s:Nat}{D:Type}(M:CR D)(N:D→Nat){b:Code}{f:aJ→ai→Option (dK×aJ×ai)}(x:dg P G an s b f)
 (aY:∀C E d,M.T.parse C E=some d→gr none (M.lB d).1 C=some (M.lB d).1∧eW (M.lB d).2 E=some (M.lB d).2∧N d=E.length∧
  ∃u,(M.lB d).2[M.m]? =some ⟨u,.own⟩∧M.T.az d=(CQ (CP M.m E.length) (M.lB d).1,fc ⟨.gen [],.bn⟩ M.m (M.lB d).2++[⟨u,.own⟩]))
 (aZ:∀d k,M.T.aT d=true→M.T.rem d=k+1→∃y l g rs,f (M.T.az d).1 ⟨(M.T.az d).2,bQ,y,[]⟩=some (.normal,l,g)∧g.ok∧
  gr rs (M.T.az (M.T.next d)).1 l=some (M.T.az (M.T.next d)).1∧lW (N d) [] rs (M.T.az (M.T.next d)).2 g.H=some (M.T.az (M.T.next d)).2∧M.T.aT (M.T.next d)=true∧M.T.rem (M.T.next d)=k∧N (M.T.next d)=N d)
 (a0:∀d,M.T.aT d=true→M.T.rem d=0→∃y l g rs,f (M.T.az d).1 ⟨(M.T.az d).2,bQ,y,[]⟩=some (M.T.out,l,g)∧g.ok∧(M.T.out=.normal→False)∧
  gr rs (M.T.fin d).1 l=some (M.T.fin d).1∧lW (N d) [] rs (M.T.fin d).2 g.H=some (M.T.fin d).2):
 eF P G an s b M.told:=by
 intro C S bs l g h;unfold CR.told at h;split at h
 ·cases h
 rename_i d a1;split at h
 ·cases h
 rename_i a2 R;simp only[aD,aO]at h;obtain⟨rfl,rfl,rfl⟩:=h;obtain⟨a3,U,aB,u,a4,aC⟩:=aY C S.H d a1;have a5:eW (M.lB d).2 (S.H++[])=some (M.lB d).2:=by rw[uG];exact U
 obtain⟨bt,bu,bv,aF⟩:=Ag R;have a6:(M.lB d).2.length=S.H.length:=(tM U).1;refine⟨⟨fun ok aH V=>ok aH (ng _ V),j0 _,by simp only;omega,fun b x a7=>absurd a7 (oz _),fun b k e W=>?_,fun b k e W=>?_⟩,fun ok β a w a8 X Q aI=>?_⟩
 ·simp only[cg]at e⊢;have x:b<S.H.length:=(dW.1 e).1;have aK:b<a2.length:=by omega
  rcases aF b _ (bX aK)with⟨_,_,z⟩|⟨j,_⟩
  ·obtain⟨a9,Y,F⟩:=z x;obtain⟨bw,I,o⟩:=(tM U).2 b a9 Y;rw[e]at I;injection I with I;subst I;rcases o with o|⟨o,_⟩
   ·rw[F]at o;cases o
   ·exact absurd W o
  ·rw[e]at j;rw[j,bX aK]
 ·simp only[cg]at e⊢;rcases aF b k e with⟨_,A,_⟩|⟨j,_⟩
  ·exact absurd W A
  ·exact j
 ·have ba:M.T.aT d=true:=ok _ (lK ..);obtain⟨aL,bb,bx⟩:=FV (cH:=[]) (by intro k e;cases e) X a5;have Z:cK an s β (M.lB d).1 a:=by
   refine xQ (β:=β) (β':=β) (rs:=none) (fun p aH bz v r V=>?_) a3 a8;unfold jz at r;split at r
   ·injection r with r;subst r;exact .aa _
   ·exact xO V r
  have aN:∀b bc,β b=some bc→b<S.H.length:=X.fl;obtain⟨j,A,z,bf⟩:=aaJ (S:={H:=(M.lB d).2,low:=0,dec:=[],cond:=[]}) (m:=M.m) (d:=u) aL a4;simp only at j A z bf;rw[a6]at j A z bf;have Y:(M.T.az d).1=CQ (CP M.m S.H.length) (M.lB d).1:=by rw[aC]
  have F:(M.T.az d).2=fc ⟨.gen [],.bn⟩ M.m (M.lB d).2++[⟨u,.own⟩]:=by rw[aC]
  have bd:cK an s (qT β M.m S.H.length) (M.T.az d).1 a:=by
   rw[Y];refine⟨fun t=>?_,Z.size,Z.defers⟩;rw[aaI];exact vD bf (Z.val t)
  have bg:aM G (qT β M.m S.H.length) (M.T.az d).2 w:=by rw[F];exact A
  have bh:gl S.H.length β (M.lB d).2 w (qT β M.m S.H.length) (M.T.az d).2 w:=by
   rw[F];exact z.q (by omega)
  refine Qq (fun n J w'=>∃c β',n=M.T.rem c∧M.T.aT c=true∧iter M.T.next (M.T.rem c) c=iter M.T.next (M.T.rem d) d∧N c=N d∧cK an s β' (M.T.az c).1 J∧aM G β' (M.T.az c).2 w'∧gl S.H.length β (M.lB d).2 w β' (M.T.az c).2 w')
   (n:=M.T.rem d) ⟨d,_,rfl,ba,rfl,rfl,bd,bg,bh⟩ ?_
  rintro n J w' ⟨c,β',rfl,aP,aQ,aa,aS,aU,K⟩;cases L:M.T.rem c with
  |zero=>
   obtain⟨y,bi,ab,rs,ad,ae,bj,ag,B⟩:=a0 c aP L;have ah:N c=S.H.length:=aa.trans aB;rw[ah]at B;obtain⟨aj,ak⟩:=x _ _ _ _ _ ad;refine ak ae β' J w' aS aU _ fun aV aW bk al am ao=>?_;have ap:S.H.length≤ab.H.length:=by have bl:=K.len;have:=aj.len;simp only at this;omega
   obtain⟨aq,ar,au,av,aw,ax⟩:=xP (n0:=S.H.length) (cH:=[]) (by simp) B ap am;have ay:=xQ ax ag al;have bm:M.T.fin (iter M.T.next (M.T.rem d) d)=M.T.fin c:=by rw[←aQ,L];rfl
   rw[bm]at R aI;obtain⟨bo,bp⟩:=FU X aL bb ar ((K.trans ao).wk aN au av aw) R;have O:=aI aV aW aq ay bo bp;cases aA:M.T.out with
   |normal=>exact absurd aA bj|exit i=>rw[aA]at O;exact O|ret=>rw[aA]at O;exact O
  |succ k=>
   obtain⟨y,bi,ab,rs,ad,ae,ag,B,bq,aX,br⟩:=aZ c k aP L;have ah:N c=S.H.length:=aa.trans aB;rw[ah]at B;obtain⟨aj,ak⟩:=x _ _ _ _ _ ad;refine ak ae β' J w' aS aU _ fun aV aW bk al am ao=>?_;have ap:S.H.length≤ab.H.length:=by have bl:=K.len;have:=aj.len;simp only at this;omega
   obtain⟨aq,ar,au,av,aw,ax⟩:=xP (n0:=S.H.length) (cH:=[]) (by simp) B ap am;have ay:=xQ ax ag al;refine⟨k,N8 k,M.T.next c,aq,aX.symm,bq,?_,br.trans aa,ay,ar,(K.trans ao).wk aN au av aw⟩;rw[←aQ,L,aX];rfl
end
end
section
variable [aR][aG]
variable{D:Type}{n:Nat}{f:aJ→ai→Option (dK×aJ×ai)}{b:Code}{Q:Nat}
def Ai(p a:N):c7 (c7 p a) a=c7 p a:=by
 cases p<;>cases a<;>rfl
def aaL:∀(p a:Option N),Af (Af p a) a=Af p a|none,_=>rfl|some p,some a=>by simp only[Af,Ai]|some p,none=>rfl
mutual
def vG:∀e:af,b7 e e=some e
 |.atom .aa=>rfl|.atom (.bool (.c _))=>rfl|.atom (.bool (.s _))=>rfl|.atom (.str _)=>rfl|.atom .mB=>rfl|.atom .cD=>rfl|.atom .fD=>rfl|.atom .mC=>rfl|.atom (.exact _)=>rfl|.num (.int _ (.c _))=>rfl|.num (.int _ (.s _))=>rfl|.num (.bP _)=>rfl|.num (.cX _)=>rfl|.num (.aF _)=>rfl|.num (.av _)=>rfl|.ref (.ptr b a)=>by cases a<;>rfl
 |.ref (.eC b a)=>rfl|.ref (.gs g a l)=>rfl|.ref (.sm b l h)=>by cases l<;>rfl
 |.ref (.sl b a l none)=>by cases a<;>cases l<;>rfl
 |.ref (.sl b a l (some c))=>by cases a<;>cases l<;>cases c<;>rfl
 |.agg d=>by simp only[b7,JM d]|.obj .bA d=>by simp only[b7,JM d]|.obj (.iq _) d=>by simp only[b7]|.obj (.fn _ _) d=>by simp only[b7]
def JM:∀a:List af,iO a a=some a|[]=>rfl|c::a=>by simp only[iO,vG c,JM a]
end
def aaM{p:El}{d a:af}(h:vF p d=some a):b7 a d=some a:=by
 cases p with
 |aa=>
  simp only[vF,aD]at h;subst h;rfl
 |bool b=>
  cases b with
  |c _=>
   simp only[vF,aD]at h;subst h;exact vG _
  |s _=>
   simp only[vF]at h;split at h
   ·cases h;rfl
   ·cases h
 |_=>simp only[vF,aD]at h;subst h;exact vG _
def aaN{p:bk}{e d:af}(h:nI p e=some d):b7 d e=some d:=by
 cases p with
 |int _ z=>
  cases z with
  |c _=>
   simp only[nI,aD]at h;subst h;exact vG _
  |s _=>
   simp only[nI]at h;split at h
   ·cases h;rfl
   ·cases h
 |bP _=>
  simp only[nI,bT]at h;obtain⟨v,a,rfl⟩:=h;simp only[b7,nI,a,ig]
 |cX _=>
  simp only[nI,bT]at h;obtain⟨v,a,rfl⟩:=h;simp only[b7,nI,a,ig]
 |aF _=>
  simp only[nI,bT]at h;obtain⟨v,a,rfl⟩:=h;simp only[b7,nI,a,ig]
 |av _=>
  simp only[nI,bT]at h;obtain⟨v,a,rfl⟩:=h;simp only[b7,nI,a,ig]
def aaO{p:Ref}{e a:af}(h:nJ p e=some a):b7 a e=some a:=by
 cases p with
 |ptr b d=>
  simp only[nJ]at h;split at h
  ·cases h;simp only[b7,nJ,Ai]
  ·cases h
 |eC b d=>
  simp only[nJ,aD]at h;subst h;exact vG _
 |gs b d l=>
  simp only[nJ,aD]at h;subst h;exact vG _
 |sm b l g=>
  simp only[nJ]at h;split at h
  ·cases h;simp only[b7,nJ,Ai]
  ·cases h;simp only[b7,nJ,Ai]
  ·cases h
 |sl b d l c=>
  simp only[nJ]at h;split at h
  ·cases h;simp only[b7,nJ,Ai,aaL]
  ·cases h;simp only[b7,nJ,Ai]
  ·cases h
mutual
def QS:∀(p c a:af),b7 p c=some a→b7 a c=some a
 |.atom p,c,a,h=>aaM h|.num p,c,a,h=>aaN h|.ref p,c,a,h=>aaO h|.agg d,c,a,h=>by
  simp only[b7]at h;split at h
  ·rename_i e;split at h
   ·rename_i g i;cases h;simp only[b7,CS d e g i]
   ·cases h
  ·cases h
 |.obj t d,c,a,h=>by
  cases t with
  |bA=>
   simp only[b7]at h;split at h
   ·rename_i e;split at h
    ·rename_i g i;cases h;simp only[b7,CS d e g i]
    ·cases h
   ·cases h
  |iq _=>simp only[b7,aD]at h;subst h;exact vG _|fn _ _=>simp only[b7,aD]at h;subst h;exact vG _
def CS:∀(c d a:List af),iO c d=some a→iO a d=some a
 |[],[],a,h=>by simp only[iO,aD]at h;subst h;rfl|[],_::_,a,h=>by simp only[iO,reduceCtorEq]at h|p::c,[],a,h=>by simp only[iO,reduceCtorEq]at h|p::c,e::d,a,h=>by
  simp only[iO]at h;split at h
  ·cases h
  ·rename_i g i;split at h
   ·cases h
   ·rename_i j k;cases h;simp only[iO,QS p e g i,CS c d j k]
end
def QT{p d c:Data}(h:ko p d=some c):ko c d=some c:=by
 cases p with
 |gen e=>
  simp only[ko]at h;split at h
  ·simp only[bT]at h;obtain⟨l,a,rfl⟩:=h;simp only[ko,CS _ _ _ a,ig]
  ·cases h
 |aj _=>
  simp only[ko,bT]at h;obtain⟨l,a,rfl⟩:=h;simp only[ko,a,ig]
 |eX _=>
  simp only[ko,bT]at h;obtain⟨l,a,rfl⟩:=h;simp only[ko,a,ig]
 |bw _=>
  simp only[ko,bT]at h;obtain⟨l,a,rfl⟩:=h;simp only[ko,a,ig]
 |spot _ _ _=>cases h
 |e9 _ g=>
  simp only[ko]at h;split at h
  ·simp only[bT]at h;obtain⟨l,a,rfl⟩:=h;simp only[ko,CS _ _ _ a,ig]
  ·cases h
 |lim _ _=>
  simp only[ko]at h;split at h
  ·cases h;rfl
  ·cases h
def aaP{p k a:ah}(h:eM p k=some a):eM a k=some a:=by
 obtain⟨g,e⟩:=p;obtain⟨i,j⟩:=k;cases e with
 |bn=>simp only[eM,aD]at h;subst h;rfl|ro=>
  simp only[eM]at h;split at h
  ·cases h
  ·rename_i l;split at h
   ·rename_i d c;cases h;simp only[eM,QT c]
   ·cases h
 |own=>
  simp only[eM]at h;split at h
  ·split at h
   ·rename_i d c;cases h;simp only[eM,QT c]
   ·cases h
  ·cases h
def vH:∀(a d c:List ah),eW a d=some c→eW c d=some c∧c.length=d.length
 |[],[],e,h=>by simp only[eW,aD]at h;subst h;exact⟨rfl,rfl⟩|[],_::_,e,h=>by simp only[eW,reduceCtorEq]at h|p::a,[],e,h=>by simp only[eW,reduceCtorEq]at h|p::a,l::g,e,h=>by
  simp only[eW]at h;split at h
  ·cases h
  ·rename_i m i;split at h
   ·cases h
   ·rename_i j k;cases h;obtain⟨h1,h2⟩:=vH a g j k;exact⟨by simp only[eW,aaP i,h1],by simp only[iW,h2]⟩
def aaQ{a c:af}(h:b7 a c=some a):jz none a c=some a:=by
 unfold jz;split
 ·rfl
 ·exact h
def QU{p c a:af}(h:jz none p c=some a):jz none a c=some a:=by
 unfold jz at h;split at h
 ·cases h;rfl
 ·exact aaQ (QS _ _ _ h)
def QV:∀(c d a:List af),lA none c d=some a→lA none a d=some a
 |[],[],a,h=>by simp only[lA,aD]at h;subst h;rfl|[],_::_,a,h=>by simp only[lA,reduceCtorEq]at h|p::c,[],a,h=>by simp only[lA,reduceCtorEq]at h|p::c,j::d,a,h=>by
  simp only[lA]at h;split at h
  ·cases h
  ·rename_i k e;split at h
   ·cases h
   ·rename_i g i;cases h;simp only[lA,QU e,QV c d g i]
def QW(c:List (Nat×af)):∀(d a:List (Nat×af)),sg none c d=some a→sg none c a=some a
 |[],a,h=>by simp only[sg,aD]at h;subst h;rfl|(t,p)::d,a,h=>by
  simp only[sg]at h;split at h
  ·cases h
  ·rename_i j e;split at h
   ·cases h
   ·rename_i g i;cases h;simp only[sg,QU e,QW c d g i]
def JN{p c a:aJ}(h:gr none p c=some a):gr none a c=some a:=by
 unfold gr at h;split at h
 ·cases h
 ·rename_i vs d;split at h
  ·cases h
  ·rename_i g e;cases h;simp only[gr,QV _ _ _ d,QW _ _ _ e]
def JO(v:af):Option (BitVec 8):=
 match v with
 |.num (.bP a)=>some a|_=>none
def jR(v:U 8)(n:Nat):List af:=(List.range n).map fun i=>.num (.bP (v.l.getD i 0#8))
def xR(n:Nat)(a:List af):Option (U 8):=
 match cU JO a with
 |some l=>
  match Nat.beq l.length n with
  |true=>some (U.of l)|false=>none
 |none=>none
def QX:∀{c:List af} {l:List (BitVec 8)},cU JO c=some l→c=l.map fun d=>.num (.bP d)
 |[],l,h=>by simp[cU]at h;subst h;rfl|d::c,l,h=>by
  simp only[cU]at h;split at h
  ·cases h
  ·rename_i g a;split at h
   ·cases h
   ·rename_i i e;cases h;rw[QX e];unfold JO at a;split at a
    ·injection a with a;subst a;rfl
    ·cases a
def CU{c:List af}{v:U 8}(h:xR n c=some v):c=jR v n∧v.n=n:=by
 unfold xR at h;split at h
 ·rename_i l d;split at h
  ·rename_i a;cases h;have a:l.length=n:=by simpa using a
   refine⟨?_,a⟩;rw[QX d];subst a;unfold jR;refine wX fun i=>?_;rw[ef,ef];rcases cu i l.length with hi|hi
   ·simp[hi,U.of]
   ·simp[hi]
  ·cases h
 ·cases h
def JP(v:af):Option (BitVec 64):=
 match v with
 |.num (.av a)=>some a|_=>none
def dU(v:U 64)(n:Nat):List af:=(List.range n).map fun i=>.num (.av (v.l.getD i 0#64))
def jS(n:Nat)(a:List af):Option (U 64):=
 match cU JP a with
 |some l=>
  match Nat.beq l.length n with
  |true=>some (U.of l)|false=>none
 |none=>none
def QY:∀{c:List af} {l:List (BitVec 64)},cU JP c=some l→c=l.map fun d=>.num (.av d)
 |[],l,h=>by simp[cU]at h;subst h;rfl|d::c,l,h=>by
  simp only[cU]at h;split at h
  ·cases h
  ·rename_i g a;split at h
   ·cases h
   ·rename_i i e;cases h;rw[QY e];unfold JP at a;split at a
    ·injection a with a;subst a;rfl
    ·cases a
def kU{c:List af}{v:U 64}(h:jS n c=some v):c=dU v n∧v.n=n:=by
 unfold jS at h;split at h
 ·rename_i l d;split at h
  ·rename_i a;cases h;have a:l.length=n:=by simpa using a
   refine⟨?_,a⟩;rw[QY d];subst a;unfold dU;refine wX fun i=>?_;rw[ef,ef];rcases cu i l.length with hi|hi
   ·simp[hi,U.of]
   ·simp[hi]
  ·cases h
 ·cases h
def jA:List Int→List af|[]=>[]|n::r=>.num (.int .i64 (.c n))::jA r
def mV:List af→List Int→Bool
 |[],l=>
  match l with
  |[]=>true|_=>false
 |a::d,l=>
  match l with
  |[]=>false|n::r=>
   match a with
   |.num (.int .i64 (.c m))=>
    match kK m n with
    |true=>mV d r|false=>false
   |_=>false
def qU:∀{a:List af} {l:List Int},mV a l=true→a=jA l
 |[],[],_=>rfl|[],_::_,h=>by simp[mV]at h|_::_,[],h=>by simp[mV]at h|e::a,n::r,h=>by
  simp only[mV]at h;split at h
  ·split at h
   ·rename_i m d;have c:=d;rw[nv]at c;rw[eq_of_beq c,qU h];rfl
   ·cases h
  ·cases h
abbrev cp:ah:=⟨.gen [],.bn⟩
abbrev af.au(a:Int):af:=.num (.int .i64 (.s a))
abbrev af.J(a:Int):af:=.num (.int .i64 (.c a))
abbrev af.P(b:Nat):af:=.ref (.ptr b (.c 0))
instance{k:Nat}:OfNat (U k) 0:=⟨U.zero k 0⟩
structure bV(D:Type)where
 d0:D
 read:List af→List ah→Option D
 args:D→List af
 heap:D→List ah
 out:D→List ah:=heap
 val:D→af
 aT:D→Bool
 qV:List af:=args d0
 qW:List ah:=heap d0
def bV.Rd(c:bV D):Prop:=∀a e d,c.read a e=some d→a=c.args d∧e=c.heap d
abbrev nK(n0:Nat)(c:Option (List Nat))(a:List ah)(v:af)(r:Option (af×ai))(cs:List Bool):Prop:=qS n0 c a v r=some (a,v,cs)
abbrev kq(n0:Nat)(a:Option (List Nat))(p:aJ×List ah)(r:Option (dK×aJ×ai))(c:dK)(cs:List Bool):Prop:=eu n0 a p r=some (c,p,cs)
abbrev jc(az:D→aJ×List ah)(n0:Nat)(d:D)(a:Option (List Nat))(p:aJ×List ah)(call:aJ→ai→Option (dK×aJ×ai))(c:List Bool)(e:dK)(cs:List Bool):Prop:=kq n0 a p (call (az d).1 ⟨(az d).2,bQ,c,[]⟩) e cs
def bt:Nat→Nat→List Bool|0,_=>[]|n+1,k=>Nat.beq (k%2) 1::bt n (k/2)
abbrev cQ(a:Int):Bool:=decide ((((-9223372036854775808):Int)≤a∧a≤9223372036854775807))
abbrev b8(n:Nat):Option (List Nat):=some (List.range n)
abbrev bV.cE(c:bV D)(d:D)(e:Option (List Nat))(call:List af→ai→Option (af×ai))(g:List Bool)(a:List ah)(v:af)(cs:List Bool):Prop:=qS (c.heap d).length e a v (call (c.args d) ⟨c.heap d,bQ,g,[]⟩)=some (a,v,cs)
abbrev bV.fR(c:bV D)(d:D)(a:Option (List Nat))(call:List af→ai→Option (af×ai))(e:List Bool)(cs:List Bool):Prop:=c.cE d a call e (c.out d) (c.val d) cs
def bV.spec(c:bV D):Spec:=fun args e g=>
 match lA none c.qV args with
 |none=>none|some a=>
  match eW c.qW e with
  |none=>none|some h=>
   match c.read a h with
   |none=>none|some d=>
    match si e (c.heap d) (c.out d)with
    |none=>none|some i=>some ⟨c.val d,i,g,[c.aT d]⟩
def bV.ok(c:bV D){P:Program}{G:Nat→Option (List af)}{f:FuncId}{call:gd}(q:fV P G call)
 (s:∀a g d,c.read a g=some d→a=c.args d∧g=c.heap d)
 (t:∀d,c.aT d=true→∃h j cs,qS (c.heap d).length j (c.out d) (c.val d) (call f (c.args d) ⟨c.heap d,bQ,h,[]⟩)=some (c.out d,c.val d,cs)∧∀u∈cs,u=true):
 dF P G f c.spec:=by
 refine dF.ends q (fun args v h r e w=>?_) (fun args v h r e i k x m=>?_)
 ·unfold bV.spec at e;split at e
  ·cases e
  rename_i a y;split at e
  ·cases e
  rename_i g o;split at e
  ·cases e
  rename_i d p;split at e
  ·cases e
  rename_i z l;injection e with e;subst e;obtain⟨rfl,rfl⟩:=s a g d p;obtain⟨A,j,cs,h1,h2⟩:=t d (w _ (ta.2 rfl));refine⟨c.qV,c.qW,c.args d,c.heap d,A,j,c.out d,cs,y,o,?_,h2,l⟩;rw[←(vH _ _ _ o).2];exact h1
 ·unfold bV.spec at e;split at e
  ·cases e
  split at e
  ·cases e
  split at e
  ·cases e
  rename_i d p;split at e
  ·cases e
  rename_i z l;injection e with e;subst e;rcases(Ag l).2.2.2 i k x with⟨_,h2,_⟩|⟨h1,_⟩
  ·exact absurd m h2
  ·exact⟨k,h1,m⟩
structure eN(D:Type)where
 d0:D
 read:aJ→List ah→Option D
 cH:List ah:=[]
 az:D→aJ×List ah
 next:D→D
 rem:D→Nat
 aT:D→Bool
 out:dK
 fin:D→aJ×List ah:=az
 qV:aJ:=(az d0).1
 qW:List ah:=(az d0).2
def eN.Rd(a:eN D):Prop:=∀c e d,a.read c e=some d→(c,e)=a.az d
abbrev eN.cE(a:eN D)(d:D)(c:Option (List Nat))(p:aJ×List ah)(call:aJ→ai→Option (dK×aJ×ai))(e:List Bool)(g:dK)(cs:List Bool):Prop:=eu ((a.az d).2.length-a.cH.length) c p (call (a.az d).1 ⟨(a.az d).2,bQ,e,[]⟩)=some (g,p,cs)
def FX{c:Type}{l a b:List c}(h:l.take n=a)(k:l.drop n=b):l=a++b:=(Ed n l).symm.trans (congr (iX HAppend.hAppend h) k)
def eN.T(a:eN D):qR D where
 parse c d:=
  match gr none a.qV c with
  |none=>none|some e=>
   match eW a.qW (d++a.cH)with
   |none=>none|some g=>a.read e g
 cH:=a.cH
 az:=a.az
 next:=a.next
 rem:=a.rem
 aT:=a.aT
 out:=a.out
 fin:=a.fin
def eN.jT(a:eN D){P:Program}{G:Nat→Option (List af)}{an:Nat}(o:dg P G an Q b f)
 (p:∀k∈a.cH,k.data.len=0) (q:a.out=.normal→False)
 (r:∀c e d,a.read c e=some d→(c,e)=a.az d)
 (s:∀d k,a.aT d=true→a.rem d=k+1→(∃g i cs,eu ((a.az d).2.length-a.cH.length) i (a.az (a.next d)) (f (a.az d).1 ⟨(a.az d).2,bQ,g,[]⟩)=some (.normal,a.az (a.next d),cs)∧(∀j∈cs,j=true))∧
  a.aT (a.next d)=true∧a.rem (a.next d)=k∧(a.az (a.next d)).2.length=(a.az d).2.length)
 (t:∀d,a.aT d=true→a.rem d=0→∃g i cs,eu ((a.az d).2.length-a.cH.length) i (a.fin d) (f (a.az d).1 ⟨(a.az d).2,bQ,g,[]⟩)=some (a.out,a.fin d,cs)∧(∀j∈cs,j=true)):
 eF P G an Q b a.T.told:=by
 refine QN a.T o p q (fun c e d h=>?_) s t;have h:(match gr none a.qV c with
  |none=>none|some l=>
   match eW a.qW (e++a.cH)with
   |none=>none|some m=>a.read l m)=some d:=h
 split at h
 ·cases h
 rename_i l u;split at h
 ·cases h
 rename_i m v;have w:=r l m d h
 show gr none (a.az d).1 c=some (a.az d).1∧eW (a.az d).2 (e++a.cH)=some (a.az d).2;rw[←w];exact⟨JN u,(vH _ _ _ v).1⟩
def eN.aaR(a:eN D)(N:D→Nat){P:Program}{G:Nat→Option (List af)}{an:Nat}(q:dg P G an Q b f)
 (r:∀k∈a.cH,k.data.len=0) (s:a.out=.normal→False)
 (t:∀e c d,a.read e c=some d→(e,c)=a.az d∧N d+a.cH.length=c.length)
 (u:∀d k,a.aT d=true→a.rem d=k+1→(∃g i cs,eu (N d) i (a.az (a.next d)) (f (a.az d).1 ⟨(a.az d).2,bQ,g,[]⟩)=some (.normal,a.az (a.next d),cs)∧(∀j∈cs,j=true))∧
  a.aT (a.next d)=true∧a.rem (a.next d)=k∧N (a.next d)=N d)
 (v:∀d,a.aT d=true→a.rem d=0→∃g i cs,eu (N d) i (a.fin d) (f (a.az d).1 ⟨(a.az d).2,bQ,g,[]⟩)=some (a.out,a.fin d,cs)∧(∀j∈cs,j=true)):
 eF P G an Q b a.T.told:=by
 have o:∀e c d,a.T.parse e c=some d→(gr none (a.az d).1 e=some (a.az d).1∧eW (a.az d).2 (c++a.cH)=some (a.az d).2)∧N d=c.length:=by
  intro e c d h;have h:(match gr none a.qV e with
   |none=>none|some l=>
    match eW a.qW (c++a.cH)with
    |none=>none|some m=>a.read l m)=some d:=h
  split at h
  ·cases h
  rename_i l w;split at h
  ·cases h
  rename_i m p;obtain⟨x,z⟩:=t l m d h;have y:=(vH _ _ _ p).2;rw[fB]at y;refine⟨?_,by omega⟩;rw[←x];exact⟨JN w,(vH _ _ _ p).1⟩
 exact aaC a.T N (fun e c d h=>(o e c d h).2) q r s (fun e c d h=>(o e c d h).1) u v
def eN.M(a:eN D)(m:Nat)(c:D→aJ×List ah):CR D:=⟨a.T,m,c⟩
def eN.QZ(a:eN D)(m n:Nat)(c:D→aJ×List ah){P:Program}{G:Nat→Option (List af)}{an:Nat}(E:dg P G an Q b f)
 (F:a.cH=[]) (H:a.out=.normal→False)
 (I:∀o e d,a.read o e=some d→(o,e)=c d)
 (J:∀d,(c d).2.length=n∧∃u,(c d).2[m]? =some ⟨u,.own⟩∧a.az d=(CQ (CP m n) (c d).1,fc ⟨.gen [],.bn⟩ m (c d).2++[⟨u,.own⟩]))
 (K:∀d k,a.aT d=true→a.rem d=k+1→(∃g i cs,eu n i (a.az (a.next d)) (f (a.az d).1 ⟨(a.az d).2,bQ,g,[]⟩)=some (.normal,a.az (a.next d),cs)∧(∀j∈cs,j=true))∧
  a.aT (a.next d)=true∧a.rem (a.next d)=k)
 (L:∀d,a.aT d=true→a.rem d=0→∃g i cs,eu n i (a.fin d) (f (a.az d).1 ⟨(a.az d).2,bQ,g,[]⟩)=some (a.out,a.fin d,cs)∧(∀j∈cs,j=true)):
 eF P G an Q b (a.M m c).told:=by
 refine aaK (a.M m c) (fun _=>n) E (fun o e d h=>?_) (fun d k h1 h2=>?_) (fun d h1 h2=>?_)
 ·have h:(match gr none a.qV o with
   |none=>none|some l=>
    match eW a.qW (e++a.cH)with
    |none=>none|some r=>a.read l r)=some d:=h
  rw[F,uG]at h;split at h
  ·cases h
  rename_i l N;split at h
  ·cases h
  rename_i r B;have s:=I l r d h;obtain⟨p,u,q,t⟩:=J d;have C:e.length=n:=by
   rw[←(vH _ _ _ B).2,show r=(c d).2 by rw[←s]];exact p
  show gr none (c d).1 o=some (c d).1∧eW (c d).2 e=some (c d).2∧n=e.length∧_;refine⟨?_,?_,C.symm,u,q,?_⟩
  ·rw[←s];exact JN N
  ·rw[←s];exact(vH _ _ _ B).1
  ·rw[C];exact t
 ·obtain⟨⟨g,i,cs,p,q⟩,t,bf⟩:=K d k h1 h2;obtain⟨l,v,w,x,y,z⟩:=tN p;exact⟨g,l,v,i,w,fun j A=>q j (by rw[←z];exact A),x,y,t,bf,rfl⟩
 ·obtain⟨g,i,cs,p,q⟩:=L d h1 h2;obtain⟨l,v,w,x,y,z⟩:=tN p;exact⟨g,l,v,i,w,fun j A=>q j (by rw[←z];exact A),H,x,y⟩
end
section
variable [aR][aG]
open Go.ChangeShapes Go.WideShapes Go.RowKit
def nL(Q a:World):Prop:=a.os=Q.os∧a.output=Q.output∧Q.heap.size≤a.heap.size∧∀c,c<Q.heap.size→a.heap[c]? =Q.heap[c]?
def nL.kept{Q a:World}(h:nL Q a)(rT:MemPlace→Prop):Q.keptBut a rT:=by
 refine⟨h.1,h.2.1,fun i hi=>?_⟩;have:=(World.keptBut_refl Q rT).2.2 i hi;rw[h.2.2.2 i hi];exact this
def nL.cell{Q b:World}(h:nL Q b){a:Addr}(c:a.block<Q.heap.size):b.cell? a=Q.cell? a:=by
 unfold World.cell?;rw[h.2.2.2 _ c]
def nL.frozen{Q b:World}(h:nL Q b){a:Addr}(c:a.block<Q.heap.size):b.frozen? a=Q.frozen? a:=by
 unfold World.frozen?;rw[h.2.2.2 _ c]
def nL.same{Q c:World}(h:nL Q c){p:MemPlace}(d:p.block<Q.heap.size):Q.sameAt c p:=by
 cases p with
 |cell b e=>exact h.cell (a:=⟨b,e,none⟩) d|map b=>exact h.2.2.2 b d
section
variable{R:Type}{enc:TypeId×Value→R}{P:Program}
def Q0{Q j:World}(k:laidOutB P=true){l:Nat→Bool}:∀{e:List TypeId} {vs:List Value} {f:List (DataW R)} {c:List MemPlace},(∀t∈e,P.readableRec t=true∧t<P.types.size)→
 DataW.TrodAll enc P Q 0 (fun _=>true) true e vs f c→(∀p∈c,Q.sameAt j p)→(∀p∈c,l p.block=true)→DataW.TrodAll enc P j 0 l true e vs f c
 |[],[],[],_,_,h,_,_=>h|t::e,v::vs,d::f,c,g,⟨p,q,h1,h2,i⟩,m,n=>by
  have o:∀a,a∈p→a∈c:=fun a b=>by rw[i];exact Wm _ b
  have r:∀a,a∈q→a∈c:=fun a b=>by rw[i];exact an1 _ b
  exact⟨p,q,WideElems.Trod_stays k (g t (lK ..)).1 (g t (lK ..)).2 h1 (fun a b=>m a (o a b)) (fun a b=>n a (o a b)),
   Q0 k (fun s u=>g s (ng _ u)) h2 (fun a b=>m a (r a b)) (fun a b=>n a (r a b)),i⟩
def aaS{f:Func}{e:ChangeSpec}{apart fresh handsOn again:Bool}{Q i:World}{args:Array Value}{c C:List (DataW R)}{before:List MemPlace}{tb:TypeId}
 (k:DataW.Whole enc P f.params.toList e.vars apart Q args.toList c C before) (s:e.vars=[]) (l:e.fn R c={results:=[.lit (.bool true)],args:=c})
 (D:laidOutB P=true) (E:∀t∈f.params.toList,P.readableRec t=true∧t<P.types.size) (u:f.resultTypes=#[tb]) (v:P.underlying tb=some .bool) (m:nL Q i):
 e.post enc P f apart fresh handsOn again Q args (.bool true) i:=by
 have n:=k.lt;obtain⟨p,q,cB,w,x,F,H⟩:=id k;rw[s]at w;obtain⟨rfl,rfl⟩:=trodVars_none w;simp only[uG]at x;subst x;have I:∀g:Nat→Bool,(∀d∈before,g d.block=true)→DataW.TrodAll enc P i 0 g true f.params.toList args.toList c before:=fun g o=>
  Q0 D E cB (fun d h=>m.same (n d h)) o
 have y:∀(b:Nat) (j:Nat→Bool) (z:Bool),DataW.TrodAll enc P i b j z f.resultTypes.toList ((Value.bool true).resultList f.resultTypes.size) (e.fn R (c++[])).results []:=by
  intro b j z;rw[u,uG,l];exact trodAll_cons_mk (shut_bool v _) trodAll_mk0
 have J:(e.fn R (c++[])).args=c:=by rw[uG,l]
 have K:(e.fn R (c++[])).vars=[]:=by rw[uG,l]
 have A:∀j:Nat→Bool,DataW.TrodVars enc P i j e.vars (e.fn R (c++[])).vars []:=by
  intro j;rw[K,s];rfl
 have cR:∀g:Nat→Bool,(∀d∈before,g d.block=true)→DataW.TrodAll enc P i 0 g true f.params.toList args.toList (e.fn R (c++[])).args before:=fun g o=>by rw[J];exact I g o
 have hold:∀d∈before,(fun b=>decide (b<Q.heap.size)) d.block=true:=fun d h=>by simpa using n d h
 refine⟨c,[],before,[],before,[],k,y _ _ _,cR _ hold,A _,World.keptBut_mono (fun d h=>⟨h,by simpa using h⟩) (m.kept (·∈before)),fun _=>?_⟩;refine⟨ok_one u rfl (okWide_bool_mk v _),_,_,([]++before)++[],⟨[]++before,[],trodAll_append (cR _ (fun _ _=>rfl)) (y _ _ _),A _,rfl,?_,?_⟩,?_⟩
 ·intro b r L;have B:MemPlace.cell b r∈before:=by simpa using L
  have:=m.frozen (a:=⟨b,r,none⟩) (n _ B);rw[this];exact F b r B
 ·intro M;simpa using H M
 ·intro d h _;simpa using h
end
def oZ(Q:World)(v:Value)(d:Data):Prop:=
 ∃a b,v=.slice a d.len b∧d.len≤b∧(b=0∨∃e:Loc,a=some (at' e.c e.base)∧b≤e.room∧jb (fun _=>none) d e Q)
abbrev Aj(Q:World):Prop:=∀c,c<Q.heap.size→oM c
section
variable{R:Type}{enc:TypeId×Value→R}{P:Program}{Q:World}{base:Nat}
def aaT(x:Aj Q){t f:TypeId}{k:IntKind}{r:Reach}{v:Value}{y:DataW R}{z:List MemPlace}(o:P.underlying t=some (.slice f))(A:P.underlying f=some (.int k))(B:P.cellsOf f=1)
 (C:Value.okWide P Q r base t v) (h:DataW.Trod enc P Q 0 (fun _=>true) true t v y z) (mk:List Int→Data) (g:∀b,(mk b).len=b.length)
 (D:∀(b:List Int) (i:Nat) d,(∀n∈b,(Lit.int k n).wf=true)→(mk b).at i=some d→i<b.length∧aC (fun _=>none) d (.int k (b.getD i 0))):
 ∃b:List Int,oZ Q v (mk b)∧b.length≤maxLen:=by
 obtain⟨M,len,j,rfl⟩:=okWide_slice o C;obtain⟨N,E⟩:=h;rcases open_ints o A B E with⟨c,l⟩|⟨a,O,S,b,c,_,p,T,F,l,q,H⟩
 ·simp[Value.cells]at c;obtain⟨rfl,rfl,rfl⟩:=c;exact⟨[],⟨none,0,by rw[g];rfl,by rw[g];exact aV _,.inl rfl⟩,j0 _⟩
 ·simp[Value.cells]at c;obtain⟨rfl,rfl,rfl⟩:=c;simp only[g6]at F;have m:(mk (b.take len)).len=len:=by rw[g,pM];omega
  refine⟨b.take len,⟨some a,j,by rw[m],by rw[m];exact p,?_⟩,by rw[pM];omega⟩;by_cases I:j=0
  ·exact .inl I
  right;have e:=q 0 (by omega);have U:a.spot=none:=by simpa[Addr.add]using World.cell?_spot e
  have s:a.block<Q.heap.size:=by have:=zB e;simpa[Addr.add]using this
  refine⟨⟨a.block,a.off,j⟩,by cases a;simp_all[at'],aV _,s,by rw[m];exact p,fun i d l=>?_⟩;obtain⟨hi,u⟩:=D (b.take len) i d (fun n J=>H n (List.mem_of_mem_take J)) l;rw[pM]at hi;have w:=q i (by omega);have K:(a.add i)=at' a.block (a.off+i):=by
   unfold Addr.add at';split
   ·rename_i e;subst e;cases a;simp_all
   ·cases a;simp
  have L:(b.take len).getD i 0=b.getD i 0:=by simp[List.getD,show i<len by omega]
  rw[K]at w;exact⟨_,w,by rw[L]at u;exact u,(x _ s).rT _ _⟩
def aaU{b:Type}{f:b→af}{l:List b}{i:Nat}{c:af}(h:(l[i]?).map f=some c):∃a,l[i]? =some a∧c=f a:=by
 rw[bT]at h;obtain⟨a,h1,h2⟩:=h;exact⟨a,h1,h2.symm⟩
def aaV{a:List Int}{i:Nat}{z:Int}(h:a[i]? =some z):a.getD i 0=z:=by simp[List.getD,h]
def aaW{z:Int}(h:(Lit.int .u8 z).wf=true):(bk.bP (BitVec.ofInt 8 z)).val=.int .u8 z:=by
 have:=bounds_u8 h
 show Value.int .u8 ((BitVec.ofInt 8 z).toNat:Int)=_;congr 1;rw[qw];omega
def Q1(f:Aj Q){t b:TypeId}{r:Reach}{v:Value}{g:DataW R}{j:List MemPlace}(k:P.underlying t=some (.slice b))(m:P.underlying b=some (.int .u8))(o:P.cellsOf b=1)
 (p:Value.okWide P Q r base t v) (h:DataW.Trod enc P Q 0 (fun _=>true) true t v g j):∃l:U 8,oZ Q v (.aj l)∧l.n≤maxLen:=by
 obtain⟨a,h1,h2⟩:=aaT f k m o p h (fun a=>.aj (U.of (a.map (BitVec.ofInt 8)))) (fun a=>by simp[Data.len,U.of]) (fun a i s q d=>by
  simp only[Data.at,U.of]at d;obtain⟨u,e,rfl⟩:=aaU d;rw[ef,bT]at e;obtain⟨z,c,rfl⟩:=e;refine⟨(dW.1 c).1,?_⟩;rw[aaV c,←aaW (q z (pJ c))];exact .num _)
 exact⟨_,h1,by simpa[U.of]using h2⟩
def aaX{t c:TypeId}{k:IntKind}{n:Nat}{r:Reach}{v:Value}{l:DataW R}{o:List MemPlace}(d:P.underlying t=some (.array n c))(p:P.underlying c=some (.int k))(q:P.cellsOf c=1)(s:P.cellsOf t=n)
 (e:Value.okWide P Q r base t v) (h:DataW.Trod enc P Q 0 (fun _=>true) true t v l o):
 ∃z:Nat→Int,v=.agg ⟨(List.range n).map fun i=>.int k (z i)⟩∧∀i,i<n→(Lit.int k (z i)).wf=true:=by
 have u:∃cs:Array Value,v=.agg cs:=by
  simp only[Value.okWide,d]at e;obtain⟨cs,h1,_⟩:=e;exact⟨cs,h1⟩
 obtain⟨cs,rfl⟩:=u;obtain⟨C,w⟩:=h;obtain⟨D,m,_,_,f,E,x⟩:=DataW.trod_array d w;have g:∀i,i<n→∃z,cs.toList[i]? =some (.int k z)∧(Lit.int k z).wf=true:=by
  intro i hi;have j:=x i hi;rw[q,y4,bX (by omega)]at j;obtain⟨z,a,_,y⟩:=DataW.trod_int p j;refine⟨z,?_,y⟩;have A:((cs.toList.drop i).take 1)[0]? =some (.int k z):=by
   have:(Value.agg cs).cells.toList=cs.toList:=rfl;rw[this]at a;rw[a];rfl
  simpa using A
 have F:cs.toList.length=n:=by
  have a:(Value.agg cs).cells.toList=cs.toList:=rfl;rw[a]at f;rw[f,s]
 refine⟨fun i=>match cs.toList[i]? with|some (.int _ z)=>z|_=>0,?_,fun i hi=>?_⟩
 ·congr 1;apply j3;apply wX;intro i;rcases cu i n with hi|hi
  ·obtain⟨z,b,_⟩:=g i hi;rw[b,ef,HW hi];simp only[ig,b]
  ·rw[dz (by omega),dz (by simpa using hi)]
 ·obtain⟨z,b,B⟩:=g i hi;simp only[b];exact B
end
end
section
variable [aR][aG]
open Go.ChangeShapes Go.WideShapes Go.RowKit
variable{W:World}{β:aE}{d:Data}{G:Nat→Option (List af)}{cs:List Bool}{v:Value}{b:Bool}{P:Program}{call:gd}{f:FuncId}{Q:List af}{vs:List Value}{R:List Bool}
def Good(W:World)(p:Value×Data)(h:Option Loc):Prop:=
 ∃a g,p.1=.slice a p.2.len g∧p.2.len≤g∧((g=0∧h=none)∨∃e:Loc,h=some e∧a=some (at' e.c e.base)∧g≤e.room∧jb (fun _=>none) p.2 e W)
def oZ.aT(h:oZ W v d):∃g,Good W (v,d) g:=by
 obtain⟨a,c,h1,h2,h3|⟨e,h3,h4,i⟩⟩:=h
 ·exact⟨none,a,c,h1,h2,.inl ⟨h3,rfl⟩⟩
 ·exact⟨some e,a,c,h1,h2,.inr ⟨e,rfl,h3,h4,i⟩⟩
def none_le(β:aE):aE.le (fun _=>none) β:=fun _ _ h=>by cases h
def jb.up{a:Loc}{w:World}(h:jb (fun _=>none) d a w):jb β d a w:=
 ⟨h.1,h.2.1,fun i c e=>by obtain⟨v,h1,h2,h3⟩:=h.2.2 i c e;exact⟨v,h1,h2.mono (none_le β),h3⟩⟩
def aaY(F:∀g l,G g=some l→gZ g<W.heap.size∧∀(i:Nat) B,l[i]? =some B→∃v,W.cell? (gz g i)=some v∧aC (fun _=>none) B v∧gh (gz g i) false)(e:List (Value×Data))(h:∀p∈e,oZ W p.1 p.2):
 ∃β:aE,aM G β (e.map fun p=>⟨p.2,.ro⟩) W∧∀(i:Nat) v d,e[i]? =some (v,d)→aC β (.sl i (.c 0) (.s d.len) none) v:=by
 have o:∀i:Nat,∃t:Option Loc,(∀p,e[i]? =some p→Good W p t)∧(e[i]? =none→t=none):=by
  intro i;cases H:e[i]? with
  |none=>exact⟨none,fun p I=>(by cases I),fun _=>rfl⟩
  |some p=>
   obtain⟨t,r⟩:=(h p (pJ H)).aT;exact⟨t,fun q w=>(by injection w with w;subst w;exact r),fun J=>(by cases J)⟩
 refine⟨fun i=>Classical.choose (o i),?_,?_⟩
 ·have u:∀i,(∀p,e[i]? =some p→Good W p (Classical.choose (o i)))∧(e[i]? =none→Classical.choose (o i)=none):=fun i=>an2 (o i);generalize K:(fun i=>Classical.choose (o i))=β;have u:∀i,(∀p,e[i]? =some p→Good W p (β i))∧(e[i]? =none→β i=none):=by rw[←K];exact u
  have x:∀(b:Nat) k,(e.map fun p=>(⟨p.2,.ro⟩:ah))[b]? =some k→∃p,e[b]? =some p∧k=⟨p.2,.ro⟩:=by
   intro b k j;rw[ef,bT]at j;obtain⟨p,h1,h2⟩:=j;exact⟨p,h1,h2.symm⟩
  refine⟨fun b k j _=>?_,fun b O k S n T _ j _ r=>?_,fun b n D=>?_,F,fun b k n j r=>?_⟩
  ·obtain⟨p,h1,rfl⟩:=x b k j;obtain⟨a,y,_,z,⟨m,bf⟩|⟨n,m,bf,L,M⟩⟩:=(u b).1 p h1
   ·exact .inr ⟨by simp only;omega,bf⟩
   ·exact .inl ⟨n,m,M.up⟩
  ·obtain⟨p,_,rfl⟩:=x b k j;cases r
  ·rcases cu b e.length with A|A
   ·simpa using A
   ·rw[(u b).2 (dz A)]at D;cases D
  ·obtain⟨p,_,rfl⟩:=x b k j;cases r
 ·intro i v d hi;obtain⟨a,y,E,z,m⟩:=(an2 (o i)).1 (v,d) hi;simp only at E z;rw[E];refine .sl i (.c 0) (.s d.len) none a y z (fun C N=>(by cases N)) ?_;rcases m with⟨m,_⟩|⟨n,m,bf,L,_⟩
  ·exact .inl m
  ·exact .inr ⟨n,m,by rw[bf];rfl,by show 0+y≤n.room;omega⟩
def verdict(r:Option (af×ai)):Option (Bool×List Bool):=
 match r with
 |some (.atom (.bool b),S)=>some (b.v,S.cond)|_=>none
def aaZ{r:Option (af×ai)}(h:verdict r=some (b,cs)):∃(a:B) (S:ai),r=some (.atom (.bool a),S)∧a.v=b∧S.cond=cs:=by
 unfold verdict at h;split at h
 ·rename_i a S;simp only[aD,aO]at h;exact⟨a,S,rfl,h.1,h.2⟩
 ·cases h
def aa0(l:fV P G call){h:List ah}
 (m:verdict (call f Q ⟨h,bQ,R,[]⟩)=some (b,cs)) (n:b=true) (o:∀i∈cs,i=true) (p:aK β Q vs) (q:aM G β h W) (r:∀(b:Nat) k,h[b]? =some k→k.mode≠.own) (s:Aj W):
 j6 P f ⟨vs⟩ W fun j t=>j=.returned (.bool true)∧nL W t:=by
 obtain⟨i,S,h1,h2,h3⟩:=aaZ m;obtain⟨_,g⟩:=l _ _ _ _ _ h1;obtain⟨_,a⟩:=g (fun w x=>o w (by rw[←h3];exact x)) β W vs p q;refine a.mono ?_;rintro j w' ⟨u,C,rfl,y,_,e⟩;refine⟨by rw[y.tC,h2,n],e.os,e.output,e.size,fun c a=>(e.kept c a ?_).1 ((s c a).1)⟩;rintro⟨z,k,D,A,B,_⟩;exact r z k A B
def Q2(k:IntKind)(n:Int):aC β (.int k (.s n)) (.int k n):=.num (.int k (.s n))
def aa1{n:Nat}{x:Nat→af}{v:Nat→Value}(h:∀i,i<n→aC β (x i) (v i)):aC β (.agg ((List.range n).map x)) (.agg ⟨(List.range n).map v⟩):=by
 refine .agg _ _ (by simp) fun i a b c e=>?_;rw[ef,bT]at c e;obtain⟨j,h1,rfl⟩:=c;obtain⟨k,h2,rfl⟩:=e;rw[h1]at h2;injection h2 with h2;subst h2;have:=dW.1 h1;obtain⟨hi,g⟩:=this;simp at hi g;exact h j (by omega)
def Q3(m:fV P G call)(a:List (Value×Data))(n:∀g l,G g=some l→gZ g<W.heap.size∧∀(i:Nat) e,l[i]? =some e→∃v,W.cell? (gz g i)=some v∧aC (fun _=>none) e v∧gh (gz g i) false)(o:Aj W)(q:∀p∈a,oZ W p.1 p.2)
 (r:verdict (call f Q ⟨a.map fun p=>⟨p.2,.ro⟩,bQ,R,[]⟩)=some (true,cs)) (t:∀e∈cs,e=true)
 (u:∀β,(∀(i:Nat) v d,a[i]? =some (v,d)→aC β (.sl i (.c 0) (.s d.len) none) v)→aK β Q vs):
 j6 P f ⟨vs⟩ W fun w x=>w=.returned (.bool true)∧nL W x:=by
 obtain⟨β,y,z⟩:=aaY (W:=W) n a q;refine aa0 m r rfl t (u β z) y (fun b k j=>?_) o;rw[ef,bT]at j;obtain⟨p,_,rfl⟩:=j;intro h;cases h
def aa2:∀p∈([]:List (Value×Data)),oZ W p.1 p.2:=fun p a=>by cases a
def Q4{c:List (Value×Data)}(h:oZ W v d)(k:∀p∈c,oZ W p.1 p.2):∀p∈(v,d)::c,oZ W p.1 p.2:=by
 intro p a;rcases jJ.1 a with rfl|a
 ·exact h
 ·exact k p a
end
end Go.ay
namespace Go.Proofs.YtcminalaicidiaaGreatDoor
section
open Go.ay
variable [aR]
def FY:List af:=[.int .u8 (.c 0),.int .u8 (.c 2),.int .u8 (.c 4),.int .u8 (.c 6),.int .u8 (.c 1),.int .u8 (.c 3),.int .u8 (.c 5),.int .u8 (.c 7),.int .u8 (.c 8),.int .u8 (.c 10),.int .u8 (.c 12),.int .u8 (.c 14),.int .u8 (.c 9),.int .u8 (.c 11),.int .u8 (.c 13),.int .u8 (.c 15),.int .u8 (.c 14),.int .u8 (.c 4),.int .u8 (.c 9),.int .u8 (.c 13),.int .u8 (.c 10),.int .u8 (.c 8),.int .u8 (.c 15),.int .u8 (.c 6),.int .u8 (.c 1),.int .u8 (.c 0),.int .u8 (.c 11),.int .u8 (.c 5),.int .u8 (.c 12),.int .u8 (.c 2),.int .u8 (.c 7),.int .u8 (.c 3),.int .u8 (.c 11),.int .u8 (.c 12),.int .u8 (.c 5),.int .u8 (.c 15),.int .u8 (.c 8),.int .u8 (.c 0),.int .u8 (.c 2),.int .u8 (.c 13),.int .u8 (.c 10),.int .u8 (.c 3),.int .u8 (.c 7),.int .u8 (.c 9),.int .u8 (.c 14),.int .u8 (.c 6),.int .u8 (.c 1),.int .u8 (.c 4),.int .u8 (.c 7),.int .u8 (.c 3),.int .u8 (.c 13),.int .u8 (.c 11),.int .u8 (.c 9),.int .u8 (.c 1),.int .u8 (.c 12),.int .u8 (.c 14),.int .u8 (.c 2),.int .u8 (.c 5),.int .u8 (.c 4),.int .u8 (.c 15),.int .u8 (.c 6),.int .u8 (.c 10),.int .u8 (.c 0),.int .u8 (.c 8),.int .u8 (.c 9),.int .u8 (.c 5),.int .u8 (.c 2),.int .u8 (.c 10),.int .u8 (.c 0),.int .u8 (.c 7),.int .u8 (.c 4),.int .u8 (.c 15),.int .u8 (.c 14),.int .u8 (.c 11),.int .u8 (.c 6),.int .u8 (.c 3),.int .u8 (.c 1),.int .u8 (.c 12),.int .u8 (.c 8),.int .u8 (.c 13),.int .u8 (.c 2),.int .u8 (.c 6),.int .u8 (.c 0),.int .u8 (.c 8),.int .u8 (.c 12),.int .u8 (.c 10),.int .u8 (.c 11),.int .u8 (.c 3),.int .u8 (.c 4),.int .u8 (.c 7),.int .u8 (.c 15),.int .u8 (.c 1),.int .u8 (.c 13),.int .u8 (.c 5),.int .u8 (.c 14),.int .u8 (.c 9),.int .u8 (.c 12),.int .u8 (.c 1),.int .u8 (.c 14),.int .u8 (.c 4),.int .u8 (.c 5),.int .u8 (.c 15),.int .u8 (.c 13),.int .u8 (.c 10),.int .u8 (.c 0),.int .u8 (.c 6),.int .u8 (.c 9),.int .u8 (.c 8),.int .u8 (.c 7),.int .u8 (.c 3),.int .u8 (.c 2),.int .u8 (.c 11),.int .u8 (.c 13),.int .u8 (.c 7),.int .u8 (.c 12),.int .u8 (.c 3),.int .u8 (.c 11),.int .u8 (.c 14),.int .u8 (.c 1),.int .u8 (.c 9),.int .u8 (.c 5),.int .u8 (.c 15),.int .u8 (.c 8),.int .u8 (.c 2),.int .u8 (.c 0),.int .u8 (.c 4),.int .u8 (.c 6),.int .u8 (.c 10),.int .u8 (.c 6),.int .u8 (.c 14),.int .u8 (.c 11),.int .u8 (.c 0),.int .u8 (.c 15),.int .u8 (.c 9),.int .u8 (.c 3),.int .u8 (.c 8),.int .u8 (.c 12),.int .u8 (.c 13),.int .u8 (.c 1),.int .u8 (.c 10),.int .u8 (.c 2),.int .u8 (.c 7),.int .u8 (.c 4),.int .u8 (.c 5),.int .u8 (.c 10),.int .u8 (.c 8),.int .u8 (.c 7),.int .u8 (.c 1),.int .u8 (.c 2),.int .u8 (.c 4),.int .u8 (.c 6),.int .u8 (.c 5),.int .u8 (.c 15),.int .u8 (.c 9),.int .u8 (.c 3),.int .u8 (.c 13),.int .u8 (.c 11),.int .u8 (.c 14),.int .u8 (.c 12),.int .u8 (.c 0),.int .u8 (.c 0),.int .u8 (.c 2),.int .u8 (.c 4),.int .u8 (.c 6),.int .u8 (.c 1),.int .u8 (.c 3),.int .u8 (.c 5),.int .u8 (.c 7),.int .u8 (.c 8),.int .u8 (.c 10),.int .u8 (.c 12),.int .u8 (.c 14),.int .u8 (.c 9),.int .u8 (.c 11),.int .u8 (.c 13),.int .u8 (.c 15),.int .u8 (.c 14),.int .u8 (.c 4),.int .u8 (.c 9),.int .u8 (.c 13),.int .u8 (.c 10),.int .u8 (.c 8),.int .u8 (.c 15),.int .u8 (.c 6),.int .u8 (.c 1),.int .u8 (.c 0),.int .u8 (.c 11),.int .u8 (.c 5),.int .u8 (.c 12),.int .u8 (.c 2),.int .u8 (.c 7),.int .u8 (.c 3)]
def FZ:List af:=[.int .u64 (.c 7640891576956012808),.int .u64 (.c 13503953896175478587),.int .u64 (.c 4354685564936845355),.int .u64 (.c 11912009170470909681),.int .u64 (.c 5840696475078001361),.int .u64 (.c 11170449401992604703),.int .u64 (.c 2270897969802886507),.int .u64 (.c 6620516959819538809)]
def bB:Nat→Option (List af)|0=>some FY|8=>some FZ|_=>none
def JQ(f:Nat)(args:List af):Option af:=
 match Nat.beq f 98,args with
 |true,[.num a,.num b,.num c]=>
  match a.fF,b.fF,c.fF with
  |some d,some e,some z=>
   match Nat.ble z.toNat 1 with
   |true=>some (.obj .bA [.num (.int .u64 (.c (((d.toNat+e.toNat+z.toNat)%18446744073709551616:Nat):Int))),.num (.int .u64 (.c (((d.toNat+e.toNat+z.toNat)/18446744073709551616:Nat):Int)))])|false=>none
  |_,_,_=>none
 |_,_=>none
def an:Nat→Nat|3=>11|4=>13|5=>5|6=>4|7=>9|8=>5|9=>20|10=>39|11=>1|12=>6|13=>16|14=>18|15=>2|16=>19|17=>27|18=>3|19=>6|20=>14|21=>16|22=>5|23=>2|24=>13|25=>13|26=>21|27=>10|28=>16|29=>14|30=>5|31=>23|32=>13|33=>17|34=>17|35=>1|36=>12|37=>15|38=>67|39=>6|40=>4|41=>3|42=>9|43=>5|44=>23|45=>3|46=>20|47=>3|48=>1|49=>24|50=>7|51=>3|52=>20|53=>15|54=>3|55=>4|56=>7|57=>6|58=>14|59=>12|66=>5|67=>5|69=>3|70=>2|75=>7|78=>5|79=>9|80=>23|81=>9|82=>5|83=>5|84=>5|85=>1|86=>48|92=>4|93=>8|94=>9|95=>12|96=>7|97=>14|118=>6|119=>9|120=>10|121=>4|122=>31|123=>6|_=>0
def eD:Nat→List Nat|3=>[13,46]|4=>[20,45,69]|5=>[6,7,5,11]|6=>[7,15]|10=>[56,90,99,134,138,143,153,156,157,182,183,181,186]|12=>[10,14,25]|13=>[18]|15=>[3]|17=>[37,38,39,36,52,53,54,51]|19=>[7,8,9,6]|20=>[20,39]|21=>[23,36,82,83,81]|22=>[5,6]|23=>[3]|26=>[22,25,51]|29=>[14,15,29,32,33,45,48,49,65,66]|32=>[17,41,42,66,67]|33=>[25,29,34]|34=>[23,35,36,34,56,57,55]|36=>[26]|37=>[36]|39=>[7,39]|42=>[12,39,64,86]|44=>[36,66,60,84,92,112,109]|46=>[30,41,56,46,66]|49=>[35,50,67,74,87,94,100,106,110]|50=>[39,34,19,52,66,63,82,48]|52=>[25,39,40,38,53,97]|53=>[39,40,41,38]|56=>[12,16]|58=>[14,15,32,85,144,145,171,172,143]|78=>[6,7]|79=>[43]|80=>[26,50,60,68,94,127]|81=>[13,14,15,12]|82=>[7]|83=>[7]|85=>[44]|92=>[5,6,4]|93=>[10]|95=>[18,22,74]|119=>[23,15,78,73,96]|120=>[33,50,51,49]|122=>[42,46,106,107,119,120]|_=>[]
def dyn:Nat→Nat→Bool|3,6=>true|4,8=>true|27,1=>true|52,15=>true|52,18=>true|53,7=>true|55,0=>true|55,2=>true|55,4=>true|55,6=>true|79,2=>true|80,6=>true|119,5=>true|119,18=>true|_,_=>false
def scope(f:Nat):Bool:=oI f [3,4,5,6,7,8,10,11,12,14,15,16,17,18,19,20,21,22,23,24,25,26,27,28,29,30,31,32,34,35,36,37,38,39,40,41,42,43,44,45,46,47,51,52,53,54,55,56,57,58,59,78,79,80,81,82,83,84,85,86,92,93,94,95,96,97,118,119,120,121,122,123]
def gx(t:Nat)(m:String):Option FuncId:=
 if t=122∧m= "Write" then some 119 else
 if t=122∧m= "Sum" then some 118 else
 if t=122∧m= "Reset" then some 85 else
 none
def dh(spec:FuncId→Option ay.Spec)(a:FuncId→Nat→Option cP):eJ:={P:=Tryz.prog,dA:=bB,an:=an,eD:=eD,dyn:=dyn,spec:=spec,loop:=a,scope:=scope,gx:=gx,ext:=JQ}
def ck:FuncId→Option ay.Spec:=fun _=>none
def aU:FuncId→Nat→Option cP:=fun _ _=>none
def JR(spec:FuncId→Option ay.Spec)(a:FuncId→Nat→Option cP)(f:FuncId):qQ (dh spec a) f=qQ (dh ck aU) f:=rfl
def aY(f:FuncId):Prop:=qQ (dh ck aU) f=true
def mixed:Tryz.prog.follows .mixedOrders=true:=by kernel_rfl
def aa3 [aG](v:Value)(w:World):(method (Tryz.prog.types.size+Made.depth) 122 v "Write").aI Tryz.prog w=.ok (119,v) w:=by kernel_rfl
def aa4 [aG](v:Value)(w:World):(method (Tryz.prog.types.size+Made.depth) 122 v "Sum").aI Tryz.prog w=.ok (118,v) w:=by kernel_rfl
def aa5 [aG](v:Value)(w:World):(method (Tryz.prog.types.size+Made.depth) 122 v "Reset").aI Tryz.prog w=.ok (85,v) w:=by kernel_rfl
def vI [aG]:oW Tryz.prog gx:=by
 intro t m f h v w;unfold gx at h;split at h
 ·rename_i a;obtain⟨rfl,rfl⟩:=a;have h:=dV h;subst h;exact aa3 v w
 split at h
 ·rename_i a;obtain⟨rfl,rfl⟩:=a;have h:=dV h;subst h;exact aa4 v w
 split at h
 ·rename_i a;obtain⟨rfl,rfl⟩:=a;have h:=dV h;subst h;exact aa5 v w
 cases h
end
section
open Go Go.ay
variable [aR][aG]
def aa6:Extern.findNext Tryz.f98=none:=by kernel_rfl
def aa7:Tryz.f98.body.isNone=true:=by kernel_rfl
def Q5:(Tryz.f98.name== "runtime.NumGoroutine")=false:=by kernel_rfl
def aa8:Extern.find Tryz.f98=some add64Entry:=by kernel_rfl
def aa9{P:Program}(a b k:Nat)(c:k≤1)(w:World):
 (add64Entry #[.int .u64 (a:Int),.int .u64 (b:Int),.int .u64 (k:Int)]).aI P w=.ok (Extern.MathBitsCarry.pair ((a+b+k)%Extern.MathBitsCarry.m64) ((a+b+k)/Extern.MathBitsCarry.m64)) w:=by
 have:k=0∨k=1:=by omega
 rcases this with rfl|rfl<;>rfl
def aba(p:Addr)(w:World):(nilAhead (Tryz.prog.types.size+Made.depth) 122 (.pointer (some p)) "Write").aI Tryz.prog w=.ok (some false) w:=by kernel_rfl
def abb(p:Addr)(w:World):(nilAhead (Tryz.prog.types.size+Made.depth) 122 (.pointer (some p)) "Sum").aI Tryz.prog w=.ok (some false) w:=by kernel_rfl
def abc(p:Addr)(w:World):(nilAhead (Tryz.prog.types.size+Made.depth) 122 (.pointer (some p)) "Reset").aI Tryz.prog w=.ok (some false) w:=by kernel_rfl
instance aov(spec:FuncId→Option ay.Spec)(l:FuncId→Nat→Option cP):lV (dh spec l)where
 PM:=by
  intro t m f h p w;change gx t m=some f at h;unfold gx at h;split at h
  ·rename_i d;obtain⟨rfl,rfl⟩:=d;exact aba p w
  split at h
  ·rename_i d;obtain⟨rfl,rfl⟩:=d;exact abb p w
  split at h
  ·rename_i d;obtain⟨rfl,rfl⟩:=d;exact abc p w
  cases h
 ok:=by
  intro f args v h β vs w o;change JQ f args=some v at h;unfold JQ at h;split at h
  case h_2=>cases h
  rename_i a b c q;split at h
  case h_2=>cases h
  rename_i e g z r s u;split at h
  case h_2=>cases h
  rename_i j;have j:z.toNat≤1:=Wf j;obtain rfl:f=98:=qz q;obtain⟨x,k⟩:=o
  match vs,x with
  |[C,D,E],_=>
   obtain rfl:=(k 0 _ _ rfl rfl).num_inv;obtain rfl:=(k 1 _ _ rfl rfl).num_inv;obtain rfl:=(k 2 _ _ rfl rfl).num_inv;rw[bk.oP r,bk.oP s,bk.oP u];simp only[aD]at h;subst h;refine⟨.tuple #[.int .u64 (((e.toNat+g.toNat+z.toNat)%18446744073709551616:Nat):Int),.int .u64 (((e.toNat+g.toNat+z.toNat)/18446744073709551616:Nat):Int)],?_,?_⟩
   ·exact .bA _ _ rfl (fun i e v h1 h2=>by
     match i,h1,h2 with
     |0,h1,h2=>cases h1;cases h2;exact .num _
     |1,h1,h2=>cases h1;cases h2;exact .num _
     |n+2,h1,_=>simp at h1)
   ·have y:Tryz.f98.body=none:=by simpa using aa7
    have F:¬Tryz.f98.name= "runtime.NumGoroutine" :=by simpa using Q5
    have A:Ez (.extern 98):=.inr ⟨98,rfl⟩;have B:=aa9 (P:=Tryz.prog) e.toNat g.toNat z.toNat j w;simp only[callFunc,dh,Sem.tr,WC,Result.andThen,Tryz.func98,Q5,y,Option.isNone_none,g6,ee,nc,aa6,aa8,mark,Sem.aI,A,Sem.fS];rw[B];rfl
end
section
open Go.ay
variable [aR][aG]
variable{spec:FuncId→Option ay.Spec}{P:FuncId→Nat→Option cP}
def abd:aY 3:=by unfold aY;kernel_rfl
def abe:aY 4:=by unfold aY;kernel_rfl
def abf:aY 5:=by unfold aY;kernel_rfl
def abg:aY 6:=by unfold aY;kernel_rfl
def abh:aY 7:=by unfold aY;kernel_rfl
def abi:aY 8:=by unfold aY;kernel_rfl
def vJ:aY 10:=by unfold aY;kernel_rfl
def abj:aY 11:=by unfold aY;kernel_rfl
def Q6:aY 12:=by unfold aY;kernel_rfl
def abk:aY 14:=by unfold aY;kernel_rfl
def abl:aY 15:=by unfold aY;kernel_rfl
def abm:aY 16:=by unfold aY;kernel_rfl
def abn:aY 17:=by unfold aY;kernel_rfl
def abo:aY 18:=by unfold aY;kernel_rfl
def Q7:aY 19:=by unfold aY;kernel_rfl
def Q8:aY 20:=by unfold aY;kernel_rfl
def JS:aY 21:=by unfold aY;kernel_rfl
def abp:aY 22:=by unfold aY;kernel_rfl
def abq:aY 23:=by unfold aY;kernel_rfl
def abr:aY 24:=by unfold aY;kernel_rfl
def abt:aY 25:=by unfold aY;kernel_rfl
def abu:aY 26:=by unfold aY;kernel_rfl
def abv:aY 27:=by unfold aY;kernel_rfl
def abw:aY 28:=by unfold aY;kernel_rfl
def JU:aY 29:=by unfold aY;kernel_rfl
def abx:aY 30:=by unfold aY;kernel_rfl
def aby:aY 31:=by unfold aY;kernel_rfl
def Ak:aY 32:=by unfold aY;kernel_rfl
def F0:aY 34:=by unfold aY;kernel_rfl
def abz:aY 35:=by unfold aY;kernel_rfl
def abA:aY 36:=by unfold aY;kernel_rfl
def abB:aY 37:=by unfold aY;kernel_rfl
def abC:aY 38:=by unfold aY;kernel_rfl
def abD:aY 39:=by unfold aY;kernel_rfl
def abE:aY 40:=by unfold aY;kernel_rfl
def abF:aY 41:=by unfold aY;kernel_rfl
def Q9:aY 42:=by unfold aY;kernel_rfl
def abG:aY 43:=by unfold aY;kernel_rfl
def CV:aY 44:=by unfold aY;kernel_rfl
def abH:aY 45:=by unfold aY;kernel_rfl
def abI:aY 46:=by unfold aY;kernel_rfl
def abJ:aY 47:=by unfold aY;kernel_rfl
def abK:aY 51:=by unfold aY;kernel_rfl
def JV:aY 52:=by unfold aY;kernel_rfl
def abL:aY 53:=by unfold aY;kernel_rfl
def abM:aY 54:=by unfold aY;kernel_rfl
def abN:aY 55:=by unfold aY;kernel_rfl
def abO:aY 56:=by unfold aY;kernel_rfl
def abP:aY 57:=by unfold aY;kernel_rfl
def JW:aY 58:=by unfold aY;kernel_rfl
def abQ:aY 59:=by unfold aY;kernel_rfl
def abR:aY 78:=by unfold aY;kernel_rfl
def abS:aY 79:=by unfold aY;kernel_rfl
def abT:aY 80:=by unfold aY;kernel_rfl
def Ra:aY 81:=by unfold aY;kernel_rfl
def abU:aY 82:=by unfold aY;kernel_rfl
def abV:aY 83:=by unfold aY;kernel_rfl
def abW:aY 84:=by unfold aY;kernel_rfl
def abX:aY 85:=by unfold aY;kernel_rfl
def abY:aY 86:=by unfold aY;kernel_rfl
def abZ:aY 92:=by unfold aY;kernel_rfl
def ab0:aY 93:=by unfold aY;kernel_rfl
def ab1:aY 94:=by unfold aY;kernel_rfl
def ab2:aY 95:=by unfold aY;kernel_rfl
def ab3:aY 96:=by unfold aY;kernel_rfl
def ab4:aY 97:=by unfold aY;kernel_rfl
def ab5:aY 118:=by unfold aY;kernel_rfl
def ab6:aY 119:=by unfold aY;kernel_rfl
def ab7:aY 120:=by unfold aY;kernel_rfl
def ab8:aY 121:=by unfold aY;kernel_rfl
def Rb:aY 122:=by unfold aY;kernel_rfl
def ab9:aY 123:=by unfold aY;kernel_rfl
def cC{f a:Nat}{l:List Nat}(h:oI f (a::l)=true):f=a∨oI f l=true:=by
 rw[Ab,jJ]at h;rcases h with h|h
 ·exact .inl h
 ·exact .inr ((Ab f l).2 h)
def acd(f:FuncId)(h:scope f=true):aY f:=by
 unfold scope at h;rcases cC h with rfl|h
 ·exact abd
 rcases cC h with rfl|h
 ·exact abe
 rcases cC h with rfl|h
 ·exact abf
 rcases cC h with rfl|h
 ·exact abg
 rcases cC h with rfl|h
 ·exact abh
 rcases cC h with rfl|h
 ·exact abi
 rcases cC h with rfl|h
 ·exact vJ
 rcases cC h with rfl|h
 ·exact abj
 rcases cC h with rfl|h
 ·exact Q6
 rcases cC h with rfl|h
 ·exact abk
 rcases cC h with rfl|h
 ·exact abl
 rcases cC h with rfl|h
 ·exact abm
 rcases cC h with rfl|h
 ·exact abn
 rcases cC h with rfl|h
 ·exact abo
 rcases cC h with rfl|h
 ·exact Q7
 rcases cC h with rfl|h
 ·exact Q8
 rcases cC h with rfl|h
 ·exact JS
 rcases cC h with rfl|h
 ·exact abp
 rcases cC h with rfl|h
 ·exact abq
 rcases cC h with rfl|h
 ·exact abr
 rcases cC h with rfl|h
 ·exact abt
 rcases cC h with rfl|h
 ·exact abu
 rcases cC h with rfl|h
 ·exact abv
 rcases cC h with rfl|h
 ·exact abw
 rcases cC h with rfl|h
 ·exact JU
 rcases cC h with rfl|h
 ·exact abx
 rcases cC h with rfl|h
 ·exact aby
 rcases cC h with rfl|h
 ·exact Ak
 rcases cC h with rfl|h
 ·exact F0
 rcases cC h with rfl|h
 ·exact abz
 rcases cC h with rfl|h
 ·exact abA
 rcases cC h with rfl|h
 ·exact abB
 rcases cC h with rfl|h
 ·exact abC
 rcases cC h with rfl|h
 ·exact abD
 rcases cC h with rfl|h
 ·exact abE
 rcases cC h with rfl|h
 ·exact abF
 rcases cC h with rfl|h
 ·exact Q9
 rcases cC h with rfl|h
 ·exact abG
 rcases cC h with rfl|h
 ·exact CV
 rcases cC h with rfl|h
 ·exact abH
 rcases cC h with rfl|h
 ·exact abI
 rcases cC h with rfl|h
 ·exact abJ
 rcases cC h with rfl|h
 ·exact abK
 rcases cC h with rfl|h
 ·exact JV
 rcases cC h with rfl|h
 ·exact abL
 rcases cC h with rfl|h
 ·exact abM
 rcases cC h with rfl|h
 ·exact abN
 rcases cC h with rfl|h
 ·exact abO
 rcases cC h with rfl|h
 ·exact abP
 rcases cC h with rfl|h
 ·exact JW
 rcases cC h with rfl|h
 ·exact abQ
 rcases cC h with rfl|h
 ·exact abR
 rcases cC h with rfl|h
 ·exact abS
 rcases cC h with rfl|h
 ·exact abT
 rcases cC h with rfl|h
 ·exact Ra
 rcases cC h with rfl|h
 ·exact abU
 rcases cC h with rfl|h
 ·exact abV
 rcases cC h with rfl|h
 ·exact abW
 rcases cC h with rfl|h
 ·exact abX
 rcases cC h with rfl|h
 ·exact abY
 rcases cC h with rfl|h
 ·exact abZ
 rcases cC h with rfl|h
 ·exact ab0
 rcases cC h with rfl|h
 ·exact ab1
 rcases cC h with rfl|h
 ·exact ab2
 rcases cC h with rfl|h
 ·exact ab3
 rcases cC h with rfl|h
 ·exact ab4
 rcases cC h with rfl|h
 ·exact ab5
 rcases cC h with rfl|h
 ·exact ab6
 rcases cC h with rfl|h
 ·exact ab7
 rcases cC h with rfl|h
 ·exact ab8
 rcases cC h with rfl|h
 ·exact Rb
 rcases cC h with rfl|h
 ·exact ab9
 cases h
def CW(spec:FuncId→Option ay.Spec)(P:FuncId→Nat→Option cP)(f:FuncId)(h:scope f=true):qQ (dh spec P) f=true:=(JR spec P f).trans (acd f h)
class bl:Prop where
 plain:∀f,scope f=true→aG.plain f
variable [bl]
abbrev br [aR][aG]:=dF Tryz.prog bB
def ace(e:∀f a,spec f=some a→br f a)(c:c6 (dh spec P) bB)(b d:Nat):
 fV Tryz.prog bB (B1 (dh spec P) b (uV (dh spec P) d b)):=
 Qt (C:=dh spec P) rfl (FR (C:=dh spec P) rfl vI mixed (CW spec P) bl.plain c (fun f a h args S v g i=>CM (e f a h) args S v g i) b d) vI mixed (CW spec P) bl.plain c b
def b9(spec:FuncId→Option ay.Spec)(P:FuncId→Nat→Option cP)(f:FuncId)(args:List af)(S:ai):Option (af×ai):=B1 (dh spec P) 100000 (uV (dh spec P) 20 100000) f args S
def dn(b:∀f a,spec f=some a→br f a)(c:c6 (dh spec P) bB):fV Tryz.prog bB (b9 spec P):=ace b c 100000 20
def fK:∀f a,ck f=some a→br f a:=fun _ _ h=>by cases h
def cL(spec:FuncId→Option ay.Spec):c6 (dh spec aU) bB:=c6.none (fun _ _=>rfl)
def bZ(spec:FuncId→Option ay.Spec)(P:FuncId→Nat→Option cP)(f i:Nat)(a:aJ)(S:ai):Option (dK×aJ×ai):=exec (dh spec P) 100000 (bh Tryz.prog f i) ⟨uV (dh spec P) 20 100000,an f,eD f,dyn f,P f⟩ a S
def iz(c:∀f a,spec f=some a→br f a)(b:c6 (dh spec P) bB)(f i:Nat)(d:aY f)(hi:i<(cI Tryz.prog f).length):
 dg Tryz.prog bB (an f) (bS Tryz.prog f) (bh Tryz.prog f i) (bZ spec P f i):=
 aaH (C:=dh spec P) rfl (FR (C:=dh spec P) rfl vI mixed (CW spec P) bl.plain b (fun f a h args S v e g=>CM (c f a h) args S v e g) 100000 20) vI mixed b ((JR spec P f).trans d) 100000 i hi
def Told(f i:Nat)(a:cP):Prop:=dg Tryz.prog bB (an f) (bS Tryz.prog f) (.loop (bh Tryz.prog f i)) a
def aA{b:Bool}{l:List Bool}(h:b=true)(k:∀a∈l,a=true):∀a∈b::l,a=true:=by
 intro a c;rcases jJ.1 c with rfl|c
 ·exact h
 ·exact k a c
def aX:∀a∈([]:List Bool),a=true:=fun a b=>by cases b
end
section
open Go.ay
variable [aR][aG][bl]
structure bq where
 (dR ep er ew eZ e4 e5 e6:BitVec 64)
structure sj where
 (a b c d:BitVec 64)
structure kr where
 (dR ep er ew eZ e4 e5 e6 xS xT xU xV xW xX xY xZ:BitVec 64)
def jd(a b c d e f g h:BitVec 8):BitVec 64:=a.setWidth 64|||b.setWidth 64<<<8|||c.setWidth 64<<<16|||d.setWidth 64<<<24|||e.setWidth 64<<<32|||f.setWidth 64<<<40|||g.setWidth 64<<<48|||h.setWidth 64<<<56
def e7(v:U 8)(a:Nat):U 64:=U.of [jd (v.l.getD (a+0) 0#8) (v.l.getD (a+1) 0#8) (v.l.getD (a+2) 0#8) (v.l.getD (a+3) 0#8) (v.l.getD (a+4) 0#8) (v.l.getD (a+5) 0#8) (v.l.getD (a+6) 0#8) (v.l.getD (a+7) 0#8),jd (v.l.getD (a+8) 0#8) (v.l.getD (a+9) 0#8) (v.l.getD (a+10) 0#8) (v.l.getD (a+11) 0#8) (v.l.getD (a+12) 0#8) (v.l.getD (a+13) 0#8) (v.l.getD (a+14) 0#8) (v.l.getD (a+15) 0#8),jd (v.l.getD (a+16) 0#8) (v.l.getD (a+17) 0#8) (v.l.getD (a+18) 0#8) (v.l.getD (a+19) 0#8) (v.l.getD (a+20) 0#8) (v.l.getD (a+21) 0#8) (v.l.getD (a+22) 0#8) (v.l.getD (a+23) 0#8),jd (v.l.getD (a+24) 0#8) (v.l.getD (a+25) 0#8) (v.l.getD (a+26) 0#8) (v.l.getD (a+27) 0#8) (v.l.getD (a+28) 0#8) (v.l.getD (a+29) 0#8) (v.l.getD (a+30) 0#8) (v.l.getD (a+31) 0#8),jd (v.l.getD (a+32) 0#8) (v.l.getD (a+33) 0#8) (v.l.getD (a+34) 0#8) (v.l.getD (a+35) 0#8) (v.l.getD (a+36) 0#8) (v.l.getD (a+37) 0#8) (v.l.getD (a+38) 0#8) (v.l.getD (a+39) 0#8),jd (v.l.getD (a+40) 0#8) (v.l.getD (a+41) 0#8) (v.l.getD (a+42) 0#8) (v.l.getD (a+43) 0#8) (v.l.getD (a+44) 0#8) (v.l.getD (a+45) 0#8) (v.l.getD (a+46) 0#8) (v.l.getD (a+47) 0#8),jd (v.l.getD (a+48) 0#8) (v.l.getD (a+49) 0#8) (v.l.getD (a+50) 0#8) (v.l.getD (a+51) 0#8) (v.l.getD (a+52) 0#8) (v.l.getD (a+53) 0#8) (v.l.getD (a+54) 0#8) (v.l.getD (a+55) 0#8),jd (v.l.getD (a+56) 0#8) (v.l.getD (a+57) 0#8) (v.l.getD (a+58) 0#8) (v.l.getD (a+59) 0#8) (v.l.getD (a+60) 0#8) (v.l.getD (a+61) 0#8) (v.l.getD (a+62) 0#8) (v.l.getD (a+63) 0#8),jd (v.l.getD (a+64) 0#8) (v.l.getD (a+65) 0#8) (v.l.getD (a+66) 0#8) (v.l.getD (a+67) 0#8) (v.l.getD (a+68) 0#8) (v.l.getD (a+69) 0#8) (v.l.getD (a+70) 0#8) (v.l.getD (a+71) 0#8),jd (v.l.getD (a+72) 0#8) (v.l.getD (a+73) 0#8) (v.l.getD (a+74) 0#8) (v.l.getD (a+75) 0#8) (v.l.getD (a+76) 0#8) (v.l.getD (a+77) 0#8) (v.l.getD (a+78) 0#8) (v.l.getD (a+79) 0#8),jd (v.l.getD (a+80) 0#8) (v.l.getD (a+81) 0#8) (v.l.getD (a+82) 0#8) (v.l.getD (a+83) 0#8) (v.l.getD (a+84) 0#8) (v.l.getD (a+85) 0#8) (v.l.getD (a+86) 0#8) (v.l.getD (a+87) 0#8),jd (v.l.getD (a+88) 0#8) (v.l.getD (a+89) 0#8) (v.l.getD (a+90) 0#8) (v.l.getD (a+91) 0#8) (v.l.getD (a+92) 0#8) (v.l.getD (a+93) 0#8) (v.l.getD (a+94) 0#8) (v.l.getD (a+95) 0#8),jd (v.l.getD (a+96) 0#8) (v.l.getD (a+97) 0#8) (v.l.getD (a+98) 0#8) (v.l.getD (a+99) 0#8) (v.l.getD (a+100) 0#8) (v.l.getD (a+101) 0#8) (v.l.getD (a+102) 0#8) (v.l.getD (a+103) 0#8),jd (v.l.getD (a+104) 0#8) (v.l.getD (a+105) 0#8) (v.l.getD (a+106) 0#8) (v.l.getD (a+107) 0#8) (v.l.getD (a+108) 0#8) (v.l.getD (a+109) 0#8) (v.l.getD (a+110) 0#8) (v.l.getD (a+111) 0#8),jd (v.l.getD (a+112) 0#8) (v.l.getD (a+113) 0#8) (v.l.getD (a+114) 0#8) (v.l.getD (a+115) 0#8) (v.l.getD (a+116) 0#8) (v.l.getD (a+117) 0#8) (v.l.getD (a+118) 0#8) (v.l.getD (a+119) 0#8),jd (v.l.getD (a+120) 0#8) (v.l.getD (a+121) 0#8) (v.l.getD (a+122) 0#8) (v.l.getD (a+123) 0#8) (v.l.getD (a+124) 0#8) (v.l.getD (a+125) 0#8) (v.l.getD (a+126) 0#8) (v.l.getD (a+127) 0#8)]
def CX(a:BitVec 64)(n:Nat):BitVec 64:=a<<<n|||a>>>(64-n)
def JX(a b c d k l:BitVec 64):sj:=
 let e:=a+k+b;let f:=CX (d^^^e) 32;let g:=c+f;let h:=CX (b^^^g) 40;let i:=e+l+h;let d2:=CX (f^^^i) 48;let j:=g+d2
 ⟨i,CX (h^^^j) 1,j,d2⟩
def acf(q:BitVec 64→BitVec 64→BitVec 64→BitVec 64→BitVec 64→BitVec 64→sj)(m:U 64)(i:List Nat)(v:kr):kr:=
 match v,i with
 |⟨j,k,n,o,gN,p,r,s,t,u,w,x,y,z,A,E⟩,[F,H,I,J,K,L,M,N,O,P,o3,Q,R,S,T,V]=>
  let e:=q j gN t y (m.l.getD F 0#64) (m.l.getD K 0#64);let B:=q k p u z (m.l.getD H 0#64) (m.l.getD L 0#64);let C:=q n r w A (m.l.getD I 0#64) (m.l.getD M 0#64);let D:=q o s x E (m.l.getD J 0#64) (m.l.getD N 0#64);let f:=q e.a B.b C.c D.d (m.l.getD O 0#64) (m.l.getD R 0#64);let g:=q B.a C.b D.c e.d (m.l.getD P 0#64) (m.l.getD S 0#64);let G:=q C.a D.b e.c B.d (m.l.getD o3 0#64) (m.l.getD T 0#64);let h:=q D.a e.b B.c C.d (m.l.getD Q 0#64) (m.l.getD V 0#64)
  ⟨f.a,g.a,G.a,h.a,h.b,f.b,g.b,G.b,G.c,h.c,f.c,g.c,g.d,G.d,h.d,f.d⟩
 |v,_=>v
def Rc(q:BitVec 64→BitVec 64→BitVec 64→BitVec 64→BitVec 64→BitVec 64→sj)(m:U 64):List (List Nat)→kr→kr|[],v=>v|a::r,v=>Rc q m r (acf q m a v)
def acg:List (List Nat):=[[0,2,4,6,1,3,5,7,8,10,12,14,9,11,13,15],[14,4,9,13,10,8,15,6,1,0,11,5,12,2,7,3],[11,12,5,15,8,0,2,13,10,3,7,9,14,6,1,4],[7,3,13,11,9,1,12,14,2,5,4,15,6,10,0,8],[9,5,2,10,0,7,4,15,14,11,6,3,1,12,8,13],[2,6,0,8,12,10,11,3,4,7,15,1,13,5,14,9],[12,1,14,4,5,15,13,10,0,6,9,8,7,3,2,11],[13,7,12,3,11,14,1,9,5,15,8,2,0,4,6,10],[6,14,11,0,15,9,3,8,12,13,1,10,2,7,4,5],[10,8,7,1,2,4,6,5,15,9,3,13,11,14,12,0],[0,2,4,6,1,3,5,7,8,10,12,14,9,11,13,15],[14,4,9,13,10,8,15,6,1,0,11,5,12,2,7,3]]
def Re(q:BitVec 64→BitVec 64→BitVec 64→BitVec 64→BitVec 64→BitVec 64→sj)(h:bq)(b c aP:BitVec 64)(m:U 64):bq:=
 let a:=Rc q m acg ⟨h.dR,h.ep,h.er,h.ew,h.eZ,h.e4,h.e5,h.e6,7640891576956012808#64,13503953896175478587#64,4354685564936845355#64,11912009170470909681#64,5840696475078001361#64^^^b,11170449401992604703#64^^^c,2270897969802886507#64^^^aP,6620516959819538809#64⟩
 ⟨h.dR^^^(a.dR^^^a.xS),h.ep^^^(a.ep^^^a.xT),h.er^^^(a.er^^^a.xU),h.ew^^^(a.ew^^^a.xV),h.eZ^^^(a.eZ^^^a.xW),h.e4^^^(a.e4^^^a.xX),h.e5^^^(a.e5^^^a.xY),h.e6^^^(a.e6^^^a.xZ)⟩
def cr(h:bq)(a b aP:BitVec 64)(m:U 64):bq:=Re JX h a b aP m
def nM(a b:BitVec 64):List af:=[.num (.av a),.num (.av b)]
def kV(h:bq):List af:=[.num (.av h.dR),.num (.av h.ep),.num (.av h.er),.num (.av h.ew),.num (.av h.eZ),.num (.av h.e4),.num (.av h.e5),.num (.av h.e6)]
def cw(a:U 8):U 8:=U.of ((List.range 128).map fun i=>a.l.getD i 0#8)
def jU(b a:BitVec 64):BitVec 64:=if(b+128#64).toNat<(128#64).toNat then a+1#64 else a
structure JY where
 (h:bq)(aZ qI:BitVec 64)(b:U 8)
def JZ(a:List af)(d:List ah):Option JY:=
 match a with
 |[.ref (.ptr 0 (.c 0)),.ref (.ptr 1 (.c 0)),.num (.int .u64 (.c 18446744073709551615)),.ref (.sl 2 (.c 0) (.c 128) none)]=>
  match d with
  |[⟨.gen [.num (.av e),.num (.av h1),.num (.av h2),.num (.av h3),.num (.av h4),.num (.av f),.num (.av g),.num (.av h)],.own⟩,⟨.gen [.num (.av i),.num (.av j)],.own⟩,⟨.gen k,.own⟩]=>
   (match xR 128 k with
   |some b=>some ⟨⟨e,h1,h2,h3,h4,f,g,h⟩,i,j,b⟩|none=>none)
  |_=>none
 |_=>none
def sk:bV JY where
 d0:=⟨⟨0,0,0,0,0,0,0,0⟩,0,0,0⟩
 read:=JZ
 args:=fun⟨_,_,_,_⟩=>[.P 0,.P 1,.num (.int .u64 (.c 18446744073709551615)),.ref (.sl 2 (.c 0) (.c 128) none)]
 heap:=fun⟨h,a,d,b⟩=>[⟨.gen [.num (.av h.dR),.num (.av h.ep),.num (.av h.er),.num (.av h.ew),.num (.av h.eZ),.num (.av h.e4),.num (.av h.e5),.num (.av h.e6)],.own⟩,⟨.gen [.num (.av a),.num (.av d)],.own⟩,⟨.gen (jR b 128),.own⟩]
 out:=fun⟨h,a,d,b⟩=>[⟨.gen (kV (cr h (a+128#64) (jU a d) 18446744073709551615#64 (e7 b 0))),.own⟩,⟨.gen (nM (a+128#64) (jU a d)),.own⟩,⟨.gen (jR b 128),.own⟩]
 val:=fun⟨_,_,_,_⟩=>(.bA [])
 aT:=fun⟨_,_,_,_⟩=>decide (True)
def ach(a:List af)(b:List ah)(d:JY)(h:sk.read a b=some d):a=sk.args d∧b=sk.heap d:=by
 replace h:JZ a b=some d:=h;unfold JZ at h;split at h
 case h_2=>cases h
 split at h
 case h_2=>cases h
 split at h
 case h_2=>cases h
 rename_i c;obtain⟨rfl,_⟩:=CU c;cases h;exact⟨rfl,rfl⟩
def aci(h:bq)(a c:BitVec 64)(b:U 8):sk.cE ⟨h,a,c,b⟩ (b8 3) (b9 ck aU 122) [false] [⟨.gen (kV (cr h (a+128#64) c 18446744073709551615#64 (e7 b 0))),.own⟩,⟨.gen (nM (a+128#64) c),.own⟩,⟨.gen (jR b 128),.own⟩] (.bA []) [(decide ((a+(128#64)).toNat<(128#64).toNat)==false)]:=by show _=_;kernel_rfl
def acj(h:bq)(a c:BitVec 64)(b:U 8):sk.cE ⟨h,a,c,b⟩ (b8 3) (b9 ck aU 122) [true] [⟨.gen (kV (cr h (a+128#64) (c+1#64) 18446744073709551615#64 (e7 b 0))),.own⟩,⟨.gen (nM (a+128#64) (c+1#64)),.own⟩,⟨.gen (jR b 128),.own⟩] (.bA []) [(decide ((a+(128#64)).toNat<(128#64).toNat)==true)]:=by show _=_;kernel_rfl
def ack:br 122 sk.spec:=by
 refine sk.ok (dn fK (cL _)) ach ?_;rintro⟨h,a,c,b⟩ f;by_cases d:(a+128#64).toNat<(128#64).toNat
 ·have e:sk.out ⟨h,a,c,b⟩=([⟨.gen (kV (cr h (a+128#64) (c+1#64) 18446744073709551615#64 (e7 b 0))),.own⟩,⟨.gen (nM (a+128#64) (c+1#64)),.own⟩,⟨.gen (jR b 128),.own⟩]:List ah):=by
   show([⟨.gen (kV (cr h (a+128#64) (jU a c) 18446744073709551615#64 (e7 b 0))),.own⟩,⟨.gen (nM (a+128#64) (jU a c)),.own⟩,⟨.gen (jR b 128),.own⟩]:List ah)=_;unfold jU;rw[ax d]
  rw[e];refine⟨[true],some [0,1,2],_,acj h a c b,?_⟩
  repeat'(refine aA ?_ ?_)
  all_goals first|exact aX|rfl|(simp only[eT,Bq,y6,nj,jI,wY]<;>exact d)
 ·have e:sk.out ⟨h,a,c,b⟩=([⟨.gen (kV (cr h (a+128#64) c 18446744073709551615#64 (e7 b 0))),.own⟩,⟨.gen (nM (a+128#64) c),.own⟩,⟨.gen (jR b 128),.own⟩]:List ah):=by
   show([⟨.gen (kV (cr h (a+128#64) (jU a c) 18446744073709551615#64 (e7 b 0))),.own⟩,⟨.gen (nM (a+128#64) (jU a c)),.own⟩,⟨.gen (jR b 128),.own⟩]:List ah)=_;unfold jU;rw[ak d]
  rw[e];refine⟨[false],some [0,1,2],_,aci h a c b,?_⟩
  repeat'(refine aA ?_ ?_)
  all_goals first|exact aX|rfl|(simp only[eT,Bq,y6,nj,jI,wY]<;>exact d)
def cZ(h:bq)(a b:BitVec 64)(d:Int)(e:U 8)(ag:Int)(f:U 8):List af:=kV h++[.num (.av a),.num (.av b),.num (.int .i64 (.s d))]++jR e 128++[.num (.int .i64 (.s ag))]++jR f 128++[.num (.int .i64 (.c 0))]
def tO(l:List af):Option (bq×BitVec 64×BitVec 64×Int×U 8×Int×U 8):=
 match l with
 |(.num (.av b))::(.num (.av h1))::(.num (.av h2))::(.num (.av h3))::(.num (.av h4))::(.num (.av d))::(.num (.av e))::(.num (.av f))::(.num (.av g))::(.num (.av h))::(.num (.int .i64 (.s i)))::a=>
  match xR 128 (a.take 128),a.drop 128 with
  |some j,((.num (.int .i64 (.s ag)))::z)=>
   match xR 128 (z.take 128),z.drop 128 with
   |some k,[.num (.int .i64 (.c 0))]=>some (⟨b,h1,h2,h3,h4,d,e,f⟩,g,h,i,j,ag,k)|_,_=>none
  |_,_=>none
 |_=>none
def x3{l:List af}{d:bq}{e f:BitVec 64}{g ag:Int}{i j:U 8}(h:tO l=some (d,e,f,g,i,ag,j)):l=cZ d e f g i ag j:=by
 unfold tO at h;split at h
 case h_2=>cases h
 split at h
 case h_2=>cases h
 rename_i a b;obtain⟨c,_⟩:=CU a;cases FX c b;split at h
 case h_2=>cases h
 rename_i a b;obtain⟨c,_⟩:=CU a;cases FX c b;cases h;simp[cZ,kV]
structure J0 where
 (h:bq)(aZ qI:BitVec 64)(ku:Int)(o4:U 8)(ag:Int)(kb:U 8)
def J1(a:List af)(b:List ah):Option J0:=
 match a with
 |[.ref (.ptr 0 (.c 0)),.ref (.ptr 0 (.c 8)),.num (.int .u64 (.c 0)),.ref (.sl 0 (.c 11) (.c 128) none)]=>
  match b with
  |[⟨.gen d,.own⟩]=>
   (match tO d with
   |some (h,e,f,g,i,ag,j)=>some ⟨h,e,f,g,i,ag,j⟩|none=>none)
  |_=>none
 |_=>none
def vK:bV J0 where
 d0:=⟨⟨0,0,0,0,0,0,0,0⟩,0,0,0,0,0,0⟩
 read:=J1
 args:=fun⟨_,_,_,_,_,_,_⟩=>[.P 0,.ref (.ptr 0 (.c 8)),.num (.int .u64 (.c 0)),.ref (.sl 0 (.c 11) (.c 128) none)]
 heap:=fun⟨h,a,b,e,d,ag,f⟩=>[⟨.gen (cZ h a b e d ag f),.own⟩]
 out:=fun⟨h,a,b,e,d,ag,f⟩=>[⟨.gen (cZ (cr h (a+128#64) b 0#64 (e7 d 0)) (a+128#64) b e (cw d) ag (cw f)),.own⟩]
 val:=fun⟨_,_,_,_,_,_,_⟩=>(.bA [])
 aT:=fun⟨_,a,_,_,_,_,_⟩=>decide (¬(a+128#64).toNat<(128#64).toNat)
def acm(h:bq)(a b:BitVec 64)(c:Int)(d:U 8)(ag:Int)(e:U 8):vK.fR ⟨h,a,b,c,d,ag,e⟩ (some [0]) (b9 ck aU 122) [false] [(decide ((a+(128#64)).toNat<(128#64).toNat)==false)]:=by show _=_;kernel_rfl
def acn(a:List af)(b:List ah)(d:J0)(h:vK.read a b=some d):a=vK.args d∧b=vK.heap d:=by
 replace h:J1 a b=some d:=h;unfold J1 at h;split at h
 case h_2=>cases h
 split at h
 case h_2=>cases h
 split at h
 case h_2=>cases h
 rename_i c;cases x3 c;cases h;exact⟨rfl,rfl⟩
def Rf:br 122 vK.spec:=by
 refine vK.ok (dn fK (cL _)) acn ?_;rintro⟨h,b,c,d,e,ag,f⟩ a;have a:=bg a;refine⟨[false],(some [0]),_,acm h b c d e ag f,?_⟩
 repeat'(refine aA ?_ ?_)
 all_goals first|exact aX|rfl|(simp only[cz]<;>omega)
end
section
open Go.ay
def vL(a:BitVec 64)(n:Nat):BitVec 64:=a>>>n|||a<<<(64-n)
def p6(a:BitVec 64):BitVec 64:=(a.setWidth 32).setWidth 64
def lX(a b c d:BitVec 64):sj:=
 let e:=a+(b+2#64*p6 a*p6 b);let f:=vL (d^^^e) 32;let g:=c+(f+2#64*p6 c*p6 f);let h:=vL (b^^^g) 24;let i:=e+(h+2#64*p6 e*p6 h);let d2:=vL (f^^^i) 16;let j:=g+(d2+2#64*p6 g*p6 d2)
 ⟨i,vL (h^^^j) 63,j,d2⟩
def Rg(v:kr):kr:=
 match v with
 |⟨i,j,k,l,gN,m,n,o,p,q,r,s,t,u,w,x⟩=>
  let e:=lX i gN p t;let B:=lX j m q u;let C:=lX k n r w;let D:=lX l o s x;let f:=lX e.a B.b C.c D.d;let g:=lX B.a C.b D.c e.d;let G:=lX C.a D.b e.c B.d;let h:=lX D.a e.b B.c C.d
  ⟨f.a,g.a,G.a,h.a,h.b,f.b,g.b,G.b,G.c,h.c,f.c,g.c,g.d,G.d,h.d,f.d⟩
def Rh(a:List Nat)(t:U 64):kr:=
 match a with
 |[b,c,d,e,f,g,h,i,j,k,m,n,o,p,q,r]=>⟨t.l.getD b 0#64,t.l.getD c 0#64,t.l.getD d 0#64,t.l.getD e 0#64,t.l.getD f 0#64,t.l.getD g 0#64,t.l.getD h 0#64,t.l.getD i 0#64,t.l.getD j 0#64,t.l.getD k 0#64,t.l.getD m 0#64,t.l.getD n 0#64,t.l.getD o 0#64,t.l.getD p 0#64,t.l.getD q 0#64,t.l.getD r 0#64⟩|_=>⟨0#64,0#64,0#64,0#64,0#64,0#64,0#64,0#64,0#64,0#64,0#64,0#64,0#64,0#64,0#64,0#64⟩
def Ri(a:kr):List (BitVec 64):=[a.dR,a.ep,a.er,a.ew,a.eZ,a.e4,a.e5,a.e6,a.xS,a.xT,a.xU,a.xV,a.xW,a.xX,a.xY,a.xZ]
def vM:List Nat→List (BitVec 64)→U 64→U 64|i::r,a::b,t=>vM r b (t.set i a)|_,_,t=>t
def o5(a:List Nat)(t:U 64):U 64:=vM a (Ri (Rg (Rh a t))) t
def fX:List (List Nat)→U 64→U 64|[],t=>t|a::r,t=>fX r (o5 a t)
def hU:List (List Nat):=(List.range 8).map (fun k=>(List.range 16).map fun j=>16*k+j)++(List.range 8).map fun k=>(List.range 16).map fun j=>2*k+16*(j/2)+j%2
def J2:∀(b:List Nat) (a:List (BitVec 64)) (t:U 64),(vM b a t).n=t.n|[],_,_=>rfl|_::_,[],_=>rfl|i::r,c::a,t=>(J2 r a (t.set i c)).trans rfl
def aco(a:List Nat)(t:U 64):(o5 a t).n=t.n:=J2 _ _ _
def x4:∀(l:List (List Nat)) (t:U 64),(fX l t).n=t.n|[],_=>rfl|a::r,t=>(x4 r (o5 a t)).trans (aco a t)
end
section
open Go.ay
variable [aR][aG][bl]
structure Rj where
 (t:U 64)(Rk aor aos aot aou aow aox aoy aoz aoA aoB aoC aoD aoE aoF aoG:Nat)
def J3(a:List af)(b:List ah):Option Rj:=
 match a with
 |[.ref (.ptr 0 (.s c)),.ref (.ptr 0 (.s d)),.ref (.ptr 0 (.s e)),.ref (.ptr 0 (.s f)),.ref (.ptr 0 (.s g)),.ref (.ptr 0 (.s h)),.ref (.ptr 0 (.s i)),.ref (.ptr 0 (.s j)),.ref (.ptr 0 (.s k)),.ref (.ptr 0 (.s l)),.ref (.ptr 0 (.s m)),.ref (.ptr 0 (.s n)),.ref (.ptr 0 (.s o)),.ref (.ptr 0 (.s p)),.ref (.ptr 0 (.s q)),.ref (.ptr 0 (.s r))]=>
  match b with
  |[⟨.bw t,.own⟩]=>some ⟨t,c,d,e,f,g,h,i,j,k,l,m,n,o,p,q,r⟩|_=>none
 |_=>none
def CY:bV Rj where
 d0:=⟨0,0,0,0,0,0,0,0,0,0,0,0,0,0,0,0,0⟩
 read:=J3
 args:=fun⟨_,a,b,c,d,e,f,g,h,i,j,k,l,m,o,p,q⟩=>[.ref (.ptr 0 (.s a)),.ref (.ptr 0 (.s b)),.ref (.ptr 0 (.s c)),.ref (.ptr 0 (.s d)),.ref (.ptr 0 (.s e)),.ref (.ptr 0 (.s f)),.ref (.ptr 0 (.s g)),.ref (.ptr 0 (.s h)),.ref (.ptr 0 (.s i)),.ref (.ptr 0 (.s j)),.ref (.ptr 0 (.s k)),.ref (.ptr 0 (.s l)),.ref (.ptr 0 (.s m)),.ref (.ptr 0 (.s o)),.ref (.ptr 0 (.s p)),.ref (.ptr 0 (.s q))]
 heap:=fun⟨t,_,_,_,_,_,_,_,_,_,_,_,_,_,_,_,_⟩=>[⟨.bw t,.own⟩]
 out:=fun⟨t,a,b,c,d,e,f,g,h,i,j,k,l,m,o,p,q⟩=>[⟨.bw (o5 [a,b,c,d,e,f,g,h,i,j,k,l,m,o,p,q] t),.own⟩]
 val:=fun⟨_,_,_,_,_,_,_,_,_,_,_,_,_,_,_,_,_⟩=>(.bA [])
 aT:=fun⟨t,a,b,c,d,e,f,g,h,i,j,k,l,m,o,p,q⟩=>decide (a<t.n∧b<t.n∧c<t.n∧d<t.n∧e<t.n∧f<t.n∧g<t.n∧h<t.n∧i<t.n∧j<t.n∧k<t.n∧l<t.n∧m<t.n∧o<t.n∧p<t.n∧q<t.n)
def acp(t:U 64)(a b c d e f g h i j k l m o p q:Nat):CY.fR ⟨t,a,b,c,d,e,f,g,h,i,j,k,l,m,o,p,q⟩ (some [0]) (b9 ck aU 86) [] [decide (q<t.n),decide (p<t.n),decide (o<t.n),decide (m<t.n),decide (l<t.n),decide (k<t.n),decide (j<t.n),decide (i<t.n),decide (h<t.n),decide (g<t.n),decide (f<t.n),decide (e<t.n),decide (d<t.n),decide (c<t.n),decide (b<t.n),decide (a<t.n),decide (q<t.n),decide (p<t.n),decide (o<t.n),decide (m<t.n),decide (l<t.n),decide (k<t.n),decide (j<t.n),decide (i<t.n),decide (h<t.n),decide (g<t.n),decide (f<t.n),decide (e<t.n),decide (d<t.n),decide (c<t.n),decide (b<t.n),decide (a<t.n)]:=by show _=_;kernel_rfl
def acr:CY.Rd:=by
 intro a b d h;change J3 a b=some d at h;unfold J3 at h;repeat' split at h
 all_goals cases h
 exact⟨rfl,rfl⟩
def acs:br 86 CY.spec:=by
 refine CY.ok (dn fK (cL _)) acr ?_;rintro⟨t,b,c,d,e,f,g,h,i,j,k,l,m,n,o,p,q⟩ a;have a:=bg a;refine⟨[],(some [0]),_,acp t b c d e f g h i j k l m n o p q,?_⟩
 repeat'(refine aA ?_ ?_)
 all_goals first|exact aX|rfl|(simp only[cz]<;>omega)
def CZ:FuncId→Option ay.Spec|86=>some CY.spec|_=>none
def J4:∀f a,CZ f=some a→br f a:=by
 intro f a h;unfold CZ at h;split at h
 ·cases h;exact acs
 ·cases h
def kW(a b:U 64):U 64:=U.of ((List.range 128).map fun i=>a.l.getD i 0#64^^^b.l.getD i 0#64)
def bz(a b:U 64):U 64:=U.of ((List.range 128).map fun i=>(a.l.getD i 0#64^^^b.l.getD i 0#64)^^^(fX hU (kW a b)).l.getD i 0#64)
def Al(a:List Nat)(t:U 64):Bool:=
 match a with
 |[b,c,d,e,f,g,h,i,j,k,l,m,o,p,q,r]=>decide (b<t.n∧c<t.n∧d<t.n∧e<t.n∧f<t.n∧g<t.n∧h<t.n∧i<t.n∧j<t.n∧k<t.n∧l<t.n∧m<t.n∧o<t.n∧p<t.n∧q<t.n∧r<t.n)|_=>true
def acu(t:U 64)(b:t.n=128)(l:List (List Nat)):∀k,k<16→Al (hU.getD (15-k) []) (fX l t)=true:=by
 intro k d;have c:(fX l t).n=128:=(x4 _ _).trans b;have h:∀a:List Nat,(∀i∈a,i<128)→Al a (fX l t)=true:=by
  intro a hi;unfold Al;split
  ·rw[c];exact bu ⟨hi _ (by simp),hi _ (by simp),hi _ (by simp),hi _ (by simp),hi _ (by simp),hi _ (by simp),hi _ (by simp),hi _ (by simp),hi _ (by simp),hi _ (by simp),hi _ (by simp),hi _ (by simp),hi _ (by simp),hi _ (by simp),hi _ (by simp),hi _ (by simp)⟩
  ·rfl
 refine h _ ?_;revert k;decide
def Rl(a c:U 64):∀b∈(List.range 128).reverse.map (fun i=>decide (i<(fX hU (kW a c)).n))++(List.range 16).map (fun k=>Al (hU.getD (15-k) []) (fX (hU.take (15-k)) (kW a c))),b=true:=by
 intro b d;rw[fQ,y7,y7]at d;rcases d with⟨i,hi,rfl⟩|⟨k,e,rfl⟩
 ·refine bu ?_;rw[x4];exact List.mem_range.mp (List.mem_reverse.mp hi)
 ·exact acu _ rfl _ k (List.mem_range.mp e)
structure F1 where
 (u x y:U 64)
def J5(a:List af)(b:List ah):Option F1:=
 match a with
 |[.ref (.ptr 0 (.c 0)),.ref (.ptr 1 (.c 0)),.ref (.ptr 2 (.c 0)),.atom (.bool (.c false))]=>
  match b with
  |[⟨.gen d,.own⟩,⟨.gen e,.own⟩,⟨.gen f,.ro⟩]=>
   (match jS 128 d with
   |some u=>
   (match jS 128 e with
   |some g=>
   (match jS 128 f with
   |some h=>some ⟨u,g,h⟩|none=>none)
   |none=>none)
   |none=>none)
  |_=>none
 |_=>none
def vN:bV F1 where
 d0:=⟨0,0,0⟩
 read:=J5
 args:=fun⟨_,_,_⟩=>[.P 0,.P 1,.P 2,.atom (.bool (.c false))]
 heap:=fun⟨u,a,b⟩=>[⟨.gen (dU u 128),.own⟩,⟨.gen (dU a 128),.own⟩,⟨.gen (dU b 128),.ro⟩]
 out:=fun⟨_,a,b⟩=>[⟨.gen (dU (bz a b) 128),.own⟩,⟨.gen (dU a 128),.own⟩,⟨.gen (dU b 128),.ro⟩]
 val:=fun⟨_,_,_⟩=>(.bA [])
 aT:=fun⟨_,_,_⟩=>decide (True)
def acv(u a b:U 64):vN.fR ⟨u,a,b⟩ (b8 3) (b9 CZ aU 58) [] ((List.range 128).reverse.map (fun i=>decide (i<(fX hU (kW a b)).n))++(List.range 16).map (fun k=>Al (hU.getD (15-k) []) (fX (hU.take (15-k)) (kW a b)))):=by show _=_;kernel_rfl
def acw(a:List af)(b:List ah)(d:F1)(h:vN.read a b=some d):a=vN.args d∧b=vN.heap d:=by
 replace h:J5 a b=some d:=h;unfold J5 at h;split at h
 case h_2=>cases h
 split at h
 case h_2=>cases h
 split at h
 case h_2=>cases h
 rename_i c;obtain⟨rfl,_⟩:=kU c;split at h
 case h_2=>cases h
 rename_i e;obtain⟨rfl,_⟩:=kU e;split at h
 case h_2=>cases h
 rename_i f;obtain⟨rfl,_⟩:=kU f;cases h;exact⟨rfl,rfl⟩
def acy:br 58 vN.spec:=by
 refine vN.ok (dn J4 (cL _)) acw ?_;rintro⟨u,a,b⟩ c;refine⟨[],(b8 3),_,acv u a b,?_⟩;exact Rl a b
structure F2 where
 (x y:U 64)
def J6(a:List af)(b:List ah):Option F2:=
 match a with
 |[.ref (.ptr 0 (.c 0)),.ref (.ptr 0 (.c 0)),.ref (.ptr 1 (.c 0)),.atom (.bool (.c false))]=>
  match b with
  |[⟨.gen d,.own⟩,⟨.gen e,.ro⟩]=>
   (match jS 128 d with
   |some f=>
   (match jS 128 e with
   |some g=>some ⟨f,g⟩|none=>none)
   |none=>none)
  |_=>none
 |_=>none
def vO:bV F2 where
 d0:=⟨0,0⟩
 read:=J6
 args:=fun⟨_,_⟩=>[.P 0,.P 0,.P 1,.atom (.bool (.c false))]
 heap:=fun⟨b,a⟩=>[⟨.gen (dU b 128),.own⟩,⟨.gen (dU a 128),.ro⟩]
 out:=fun⟨b,a⟩=>[⟨.gen (dU (bz b a) 128),.own⟩,⟨.gen (dU a 128),.ro⟩]
 val:=fun⟨_,_⟩=>(.bA [])
 aT:=fun⟨_,_⟩=>decide (True)
def acz(a b:U 64):vO.fR ⟨a,b⟩ (b8 2) (b9 CZ aU 58) [] ((List.range 128).reverse.map (fun i=>decide (i<(fX hU (kW a b)).n))++(List.range 16).map (fun k=>Al (hU.getD (15-k) []) (fX (hU.take (15-k)) (kW a b)))):=by show _=_;kernel_rfl
def acA(a:List af)(b:List ah)(d:F2)(h:vO.read a b=some d):a=vO.args d∧b=vO.heap d:=by
 replace h:J6 a b=some d:=h;unfold J6 at h;split at h
 case h_2=>cases h
 split at h
 case h_2=>cases h
 split at h
 case h_2=>cases h
 rename_i c;obtain⟨rfl,_⟩:=kU c;split at h
 case h_2=>cases h
 rename_i e;obtain⟨rfl,_⟩:=kU e;cases h;exact⟨rfl,rfl⟩
def acB:br 58 vO.spec:=by
 refine vO.ok (dn J4 (cL _)) acA ?_;rintro⟨a,b⟩ c;refine⟨[],(b8 2),_,acz a b,?_⟩;exact Rl a b
abbrev cx:=Nat→Bool→Bool
def ei(f:cx)(a:Nat)(w:Bool):Bool:=(List.range 128).all fun j=>f (a+j) w
def x5{f:cx}{a:Nat}{w:Bool}(h:ei f a w=true){i:Int}(b:0≤i)(h1:i<128):f (a+i.toNat*1) w=true:=by
 unfold ei at h;rw[w5]at h;have:=h i.toNat (oA.2 (by omega))
 rwa[y4]
def Am(X T:U 64)(a b:Nat)(i:Int):U 64:=T.set (0+i.toNat*1) (X.l.getD (a+i.toNat*1) 0#64^^^X.l.getD (b+i.toNat*1) 0#64)
def vP(X T:U 64)(a b c:Nat)(i:Int):U 64:=X.set (a+i.toNat*1) (X.l.getD (a+i.toNat*1) 0#64^^^((X.l.getD (b+i.toNat*1) 0#64^^^X.l.getD (c+i.toNat*1) 0#64)^^^T.l.getD (0+i.toNat*1) 0#64))
def acC(X T:U 64)(a b:Nat)(i:Int):(Am X T a b i).n=T.n:=rfl
def acD(X T:U 64)(a b c:Nat)(i:Int):(vP X T a b c i).n=X.n:=rfl
structure An where
 (f:cx)(X T:U 64)(bD bC bO:Nat)(i:Int)
def acE(d:An):aJ×List ah:=
 match d with
 |⟨f,X,T,a,b,e,i⟩=>(⟨[.ref (.ptr 0 (.s a)),.ref (.ptr 0 (.s b)),.ref (.ptr 0 (.s e)),.atom (.bool (.c true)),.aa,.aa,.aa,.aa,.P 1,.aa,.aa,.aa,.aa,.aa],[⟨14,.au i⟩]⟩,[⟨.lim f X,.own⟩,⟨.bw T,.own⟩])
def tP(d:An):An:=
 match d with
 |⟨f,X,T,c,a,b,i⟩=>⟨f,X,Am X T a b i,c,a,b,i+1⟩
def J7(a:aJ)(b:List ah):Option An:=
 match a with
 |⟨[.ref (.ptr 0 (.s d)),.ref (.ptr 0 (.s e)),.ref (.ptr 0 (.s g)),.atom (.bool (.c true)),.atom .aa,.atom .aa,.atom .aa,.atom .aa,.ref (.ptr 1 (.c 0)),.atom .aa,.atom .aa,.atom .aa,.atom .aa,.atom .aa],[⟨14,.num (.int .i64 (.s i))⟩]⟩=>
  match b with
  |[⟨.lim f X,.own⟩,⟨.bw T,.own⟩]=>some ⟨f,X,T,d,e,g,i⟩|_=>none
 |_=>none
def nN:eN An where
 d0:=⟨fun _ _=>false,0,0,0,0,0,0⟩
 read:=J7
 az:=acE
 next:=tP
 rem:=fun⟨_,_,_,_,_,_,i⟩=>(128-i).toNat
 aT:=fun⟨f,X,T,c,a,b,i⟩=>decide (0≤i∧i≤128∧T.n=128∧c+128≤X.n∧a+128≤X.n∧b+128≤X.n∧ei f a false=true∧ei f b false=true)
 out:=.exit 0
def acF(f:cx)(X T:U 64)(c a b:Nat)(i:Int):nN.cE ⟨f,X,T,c,a,b,i⟩ (b8 2) (nN.az (tP ⟨f,X,T,c,a,b,i⟩)) (bZ ck aU 58 0) [true] .normal [cQ (i+1),decide ((0+(i.toNat*1))<T.n),(decide (0≤i)&&decide (i<(128:Int))),(f (b+(i.toNat*1)) false),decide ((b+(i.toNat*1))<X.n),(decide (0≤i)&&decide (i<(128:Int))),(f (a+(i.toNat*1)) false),decide ((a+(i.toNat*1))<X.n),(decide (0≤i)&&decide (i<(128:Int))),(decide (i<128)==true)]:=by show _=_;kernel_rfl
def acG(f:cx)(X T:U 64)(a b c:Nat)(i:Int):nN.cE ⟨f,X,T,a,b,c,i⟩ none (nN.fin ⟨f,X,T,a,b,c,i⟩) (bZ ck aU 58 0) [false] nN.out [(decide (i<128)==false)]:=by show _=_;kernel_rfl
def acH:nN.Rd:=by
 intro a b d h;change J7 a b=some d at h;unfold J7 at h;repeat' split at h
 all_goals cases h
 rfl
def acI:dg Tryz.prog bB (an 58) (bS Tryz.prog 58) (bh Tryz.prog 58 0) (bZ ck aU 58 0):=iz fK (cL _) 58 0 JW (by rw[show(cI Tryz.prog 58).length=5 by kernel_rfl];omega)
def acJ:eF Tryz.prog bB (an 58) (bS Tryz.prog 58) (bh Tryz.prog 58 0) nN.T.told:=by
 refine nN.jT acI (by intro k g;have g:k∈([]:List ah):=g;cases g) (by intro h;cases h) acH ?_ ?_
 ·rintro⟨f,X,T,c,a,b,i⟩ q d e;have d:=bg d;have e:(128-i).toNat=q+1:=e;have r:nN.next ⟨f,X,T,c,a,b,i⟩=tP ⟨f,X,T,c,a,b,i⟩:=rfl;rw[r];refine⟨⟨[true],(b8 2),_,acF f X T c a b i,?_⟩,?_,?_,(show(nN.az (tP ⟨f,X,T,c,a,b,i⟩)).2.length=2 by kernel_rfl).trans (show(nN.az ⟨f,X,T,c,a,b,i⟩).2.length=2 by kernel_rfl).symm⟩
  ·obtain⟨j,h1,h2,h3,h4,p,l,m⟩:=d
   repeat'(refine aA ?_ ?_)
   all_goals first|exact aX|exact x5 l j (by omega)|exact x5 m j (by omega)|(simp only[dI,jI,eT]<;>omega)
  ·have o:nN.aT (tP ⟨f,X,T,c,a,b,i⟩)=decide (0≤(i+1:Int)∧(i+1:Int)≤128∧(Am X T a b i:U 64).n=128∧c+128≤X.n∧a+128≤X.n∧b+128≤X.n∧ei f a false=true∧ei f b false=true):=by kernel_rfl
   refine o.trans (bu ?_);have s:=acC X T a b i;obtain⟨j,h1,h2,h3,h4,p,l,m⟩:=d;exact⟨by omega,by omega,s.trans h2,h3,h4,p,l,m⟩
  ·have o:nN.rem (tP ⟨f,X,T,c,a,b,i⟩)=((128-(i+1:Int)).toNat):=by kernel_rfl
   refine o.trans ?_;omega
 ·rintro⟨f,X,T,c,a,b,i⟩ d e;have d:=bg d;have e:(128-i).toNat=0:=e;refine⟨[false],none,_,acG f X T c a b i,?_⟩
  repeat'(refine aA ?_ ?_)
  all_goals first|exact aX|rfl|(simp only[cz]<;>omega)
def J8:cP:=nN.T.told
def acK:Told 58 0 J8:=acJ.run
structure Ao where
 (f:cx)(X T:U 64)(bD bC bO:Nat)(i:Int)
def acL(d:Ao):aJ×List ah:=
 match d with
 |⟨f,X,T,a,b,e,i⟩=>(⟨[.ref (.ptr 0 (.s a)),.ref (.ptr 0 (.s b)),.ref (.ptr 0 (.s e)),.atom (.bool (.c true)),.aa,.aa,.aa,.aa,.P 1,.aa,.aa,.aa,.aa,.aa],[⟨144,.au i⟩]⟩,[⟨.lim f X,.own⟩,⟨.bw T,.own⟩])
def p7(d:Ao):Ao:=
 match d with
 |⟨f,X,T,a,b,c,i⟩=>⟨f,vP X T a b c i,T,a,b,c,i+1⟩
def J9(a:aJ)(b:List ah):Option Ao:=
 match a with
 |⟨[.ref (.ptr 0 (.s d)),.ref (.ptr 0 (.s e)),.ref (.ptr 0 (.s g)),.atom (.bool (.c true)),.atom .aa,.atom .aa,.atom .aa,.atom .aa,.ref (.ptr 1 (.c 0)),.atom .aa,.atom .aa,.atom .aa,.atom .aa,.atom .aa],[⟨144,.num (.int .i64 (.s i))⟩]⟩=>
  match b with
  |[⟨.lim f X,.own⟩,⟨.bw T,.own⟩]=>some ⟨f,X,T,d,e,g,i⟩|_=>none
 |_=>none
def nO:eN Ao where
 d0:=⟨fun _ _=>false,0,0,0,0,0,0⟩
 read:=J9
 az:=acL
 next:=p7
 rem:=fun⟨_,_,_,_,_,_,i⟩=>(128-i).toNat
 aT:=fun⟨f,X,T,a,b,c,i⟩=>decide (0≤i∧i≤128∧T.n=128∧a+128≤X.n∧b+128≤X.n∧c+128≤X.n∧ei f a false=true∧ei f a true=true∧ei f b false=true∧ei f c false=true)
 out:=.exit 6
def acM(f:cx)(X T:U 64)(a b c:Nat)(i:Int):nO.cE ⟨f,X,T,a,b,c,i⟩ (b8 2) (nO.az (p7 ⟨f,X,T,a,b,c,i⟩)) (bZ ck aU 58 3) [true] .normal [cQ (i+1),(f (a+(i.toNat*1)) true),decide ((a+(i.toNat*1))<X.n),(decide (0≤i)&&decide (i<(128:Int))),decide ((0+(i.toNat*1))<T.n),(decide (0≤i)&&decide (i<(128:Int))),(f (c+(i.toNat*1)) false),decide ((c+(i.toNat*1))<X.n),(decide (0≤i)&&decide (i<(128:Int))),(f (b+(i.toNat*1)) false),decide ((b+(i.toNat*1))<X.n),(decide (0≤i)&&decide (i<(128:Int))),(f (a+(i.toNat*1)) false),decide ((a+(i.toNat*1))<X.n),(decide (0≤i)&&decide (i<(128:Int))),(decide (i<128)==true)]:=by show _=_;kernel_rfl
def acN(f:cx)(X T:U 64)(a b c:Nat)(i:Int):nO.cE ⟨f,X,T,a,b,c,i⟩ none (nO.fin ⟨f,X,T,a,b,c,i⟩) (bZ ck aU 58 3) [false] nO.out [(decide (i<128)==false)]:=by show _=_;kernel_rfl
def acO:nO.Rd:=by
 intro a b d h;change J9 a b=some d at h;unfold J9 at h;repeat' split at h
 all_goals cases h
 rfl
def acP:dg Tryz.prog bB (an 58) (bS Tryz.prog 58) (bh Tryz.prog 58 3) (bZ ck aU 58 3):=iz fK (cL _) 58 3 JW (by rw[show(cI Tryz.prog 58).length=5 by kernel_rfl];omega)
def acQ:eF Tryz.prog bB (an 58) (bS Tryz.prog 58) (bh Tryz.prog 58 3) nO.T.told:=by
 refine nO.jT acP (by intro k j;have j:k∈([]:List ah):=j;cases j) (by intro h;cases h) acO ?_ ?_
 ·rintro⟨f,X,T,a,b,c,i⟩ t d e;have d:=bg d;have e:(128-i).toNat=t+1:=e;have u:nO.next ⟨f,X,T,a,b,c,i⟩=p7 ⟨f,X,T,a,b,c,i⟩:=rfl;rw[u];refine⟨⟨[true],(b8 2),_,acM f X T a b c i,?_⟩,?_,?_,(show(nO.az (p7 ⟨f,X,T,a,b,c,i⟩)).2.length=2 by kernel_rfl).trans (show(nO.az ⟨f,X,T,a,b,c,i⟩).2.length=2 by kernel_rfl).symm⟩
  ·obtain⟨g,h1,h2,h3,h4,s,l,m,o,p⟩:=d
   repeat'(refine aA ?_ ?_)
   all_goals first|exact aX|exact x5 l g (by omega)|exact x5 m g (by omega)|exact x5 o g (by omega)|exact x5 p g (by omega)|(simp only[dI,jI,eT]<;>omega)
  ·have q:nO.aT (p7 ⟨f,X,T,a,b,c,i⟩)=decide (0≤(i+1:Int)∧(i+1:Int)≤128∧T.n=128∧a+128≤(vP X T a b c i:U 64).n∧b+128≤(vP X T a b c i:U 64).n∧c+128≤(vP X T a b c i:U 64).n∧ei f a false=true∧ei f a true=true∧ei f b false=true∧ei f c false=true):=by kernel_rfl
   refine q.trans (bu ?_);have r:=acD X T a b c i;obtain⟨g,h1,h2,h3,h4,s,l,m,o,p⟩:=d;exact⟨by omega,by omega,h2,by rw[r];exact h3,by rw[r];exact h4,by rw[r];exact s,l,m,o,p⟩
  ·have q:nO.rem (p7 ⟨f,X,T,a,b,c,i⟩)=((128-(i+1:Int)).toNat):=by kernel_rfl
   refine q.trans ?_;omega
 ·rintro⟨f,X,T,a,b,c,i⟩ d e;have d:=bg d;have e:(128-i).toNat=0:=e;refine⟨[false],none,_,acN f X T a b c i,?_⟩
  repeat'(refine aA ?_ ?_)
  all_goals first|exact aX|rfl|(simp only[cz]<;>omega)
def Ka:cP:=nO.T.told
def acR:Told 58 3 Ka:=acQ.run
def p8:FuncId→Nat→Option cP|58,2=>some J8|58,16=>some Ka|_,_=>none
def acS:(cI Tryz.prog 58).length=5:=by kernel_rfl
def acT(spec:FuncId→Option ay.Spec):c6 (dh spec p8) bB:=by
 refine c6.of fun f=>?_;by_cases c:f=58
 ·subst c;refine .inr ⟨by kernel_rfl,fun i hi d a=>?_⟩;have hi:i<(cI Tryz.prog 58).length:=hi;rw[acS]at hi;have e:i=0∨i=1∨i=2∨i=3∨i=4:=by omega
  rcases e with rfl|rfl|rfl|rfl|rfl
  ·have b:(bY (bh Tryz.prog 58 0)).bind (p8 58)=some J8:=by kernel_rfl
   obtain rfl:=dV (b.symm.trans a);exact acK
  ·have b:(bY (bh Tryz.prog 58 1)).bind (p8 58)=none:=by kernel_rfl
   have a:(bY (bh Tryz.prog 58 1)).bind (p8 58)=some d:=a;rw[b]at a;cases a
  ·have b:(bY (bh Tryz.prog 58 2)).bind (p8 58)=none:=by kernel_rfl
   have a:(bY (bh Tryz.prog 58 2)).bind (p8 58)=some d:=a;rw[b]at a;cases a
  ·have b:(bY (bh Tryz.prog 58 3)).bind (p8 58)=some Ka:=by kernel_rfl
   obtain rfl:=dV (b.symm.trans a);exact acR
  ·have b:(bY (bh Tryz.prog 58 4)).bind (p8 58)=none:=by kernel_rfl
   have a:(bY (bh Tryz.prog 58 4)).bind (p8 58)=some d:=a;rw[b]at a;cases a
 ·refine .inl fun r=>?_
  show p8 f r=none;unfold p8;split
  ·exact absurd rfl c
  ·exact absurd rfl c
  ·rfl
def jQ(f:cx)(X:U 64)(a b c:Nat):An:=iter tP ((128-(0:Int)).toNat) ⟨f,X,U.of (List.replicate 128 0#64),a,b,c,0⟩
def F3(f:cx)(X:U 64)(a b c:Nat):Ao:=iter p7 ((128-(0:Int)).toNat) ⟨f,(jQ f X a b c).X,fX hU (jQ f X a b c).T,a,b,c,0⟩
def fo(f:cx)(X:U 64)(a b c:Nat):U 64:=(F3 f X a b c).X
def Rm(f:cx)(X T:U 64)(d a b:Nat):∀k,∃c,iter tP k ⟨f,X,T,d,a,b,0⟩=⟨f,X,c,d,a,b,(k:Int)⟩∧c.n=T.n
 |0=>⟨T,rfl,rfl⟩|k+1=>by
  obtain⟨c,e,h⟩:=Rm f X T d a b k;exact⟨Am X c a b k,by rw[gG,e];rfl,h⟩
def Rn(f:cx)(X:U 64)(a b c:Nat):(jQ f X a b c).X=X∧(jQ f X a b c).T.n=128∧(jQ f X a b c).bD=a∧(jQ f X a b c).bC=b∧(jQ f X a b c).bO=c∧(jQ f X a b c).f=f:=by
 obtain⟨d,e,h⟩:=Rm f X (U.of (List.replicate 128 0#64)) a b c 128;have g:(U.of (List.replicate 128 0#64)).n=128:=by
  show(List.replicate 128 0#64).length=128;rw[ni]
 have i:jQ f X a b c=⟨f,X,d,a,b,c,((128:Nat):Int)⟩:=e;rw[i];exact⟨rfl,h.trans g,rfl,rfl,rfl,rfl⟩
structure Ro where
 (f:cx)(X:U 64)(bD bC bO:Nat)
def Kb(a:List af)(b:List ah):Option Ro:=
 match a with
 |[.ref (.ptr 0 (.s d)),.ref (.ptr 0 (.s e)),.ref (.ptr 0 (.s g)),.atom (.bool (.c true))]=>
  match b with
  |[⟨.lim f X,.own⟩]=>some ⟨f,X,d,e,g⟩|_=>none
 |_=>none
def C0:bV Ro where
 d0:=⟨fun _ _=>false,0,0,0,0⟩
 read:=Kb
 args:=fun⟨_,_,a,b,d⟩=>[.ref (.ptr 0 (.s a)),.ref (.ptr 0 (.s b)),.ref (.ptr 0 (.s d)),.atom (.bool (.c true))]
 heap:=fun⟨f,X,_,_,_⟩=>[⟨.lim f X,.own⟩]
 out:=fun⟨f,X,a,b,d⟩=>[⟨.lim f (fo f X a b d),.own⟩]
 val:=fun⟨_,_,_,_,_⟩=>(.bA [])
 aT:=fun⟨f,X,a,b,d⟩=>decide (a+128≤X.n∧b+128≤X.n∧d+128≤X.n∧ei f a false=true∧ei f a true=true∧ei f b false=true∧ei f d false=true)
def acU(f:cx)(X:U 64)(a b c:Nat):C0.fR ⟨f,X,a,b,c⟩ (some [0]) (b9 CZ p8 58) [] [decide (((0:Int)≤0∧((0:Int)≤128∧((128:Nat)=128∧((a+128)≤X.n∧((b+128)≤X.n∧((c+128)≤X.n∧((ei f a (false))=(true)∧((ei f a (true))=(true)∧((ei f b (false))=(true)∧(ei f c (false))=(true))))))))))),decide (((14:Nat)<128∧((15:Nat)<128∧((30:Nat)<128∧((31:Nat)<128∧((46:Nat)<128∧((47:Nat)<128∧((62:Nat)<128∧((63:Nat)<128∧((78:Nat)<128∧((79:Nat)<128∧((94:Nat)<128∧((95:Nat)<128∧((110:Nat)<128∧((111:Nat)<128∧((126:Nat)<128∧(127:Nat)<128)))))))))))))))),decide (((12:Nat)<128∧((13:Nat)<128∧((28:Nat)<128∧((29:Nat)<128∧((44:Nat)<128∧((45:Nat)<128∧((60:Nat)<128∧((61:Nat)<128∧((76:Nat)<128∧((77:Nat)<128∧((92:Nat)<128∧((93:Nat)<128∧((108:Nat)<128∧((109:Nat)<128∧((124:Nat)<128∧(125:Nat)<128)))))))))))))))),decide (((10:Nat)<128∧((11:Nat)<128∧((26:Nat)<128∧((27:Nat)<128∧((42:Nat)<128∧((43:Nat)<128∧((58:Nat)<128∧((59:Nat)<128∧((74:Nat)<128∧((75:Nat)<128∧((90:Nat)<128∧((91:Nat)<128∧((106:Nat)<128∧((107:Nat)<128∧((122:Nat)<128∧(123:Nat)<128)))))))))))))))),decide (((8:Nat)<128∧((9:Nat)<128∧((24:Nat)<128∧((25:Nat)<128∧((40:Nat)<128∧((41:Nat)<128∧((56:Nat)<128∧((57:Nat)<128∧((72:Nat)<128∧((73:Nat)<128∧((88:Nat)<128∧((89:Nat)<128∧((104:Nat)<128∧((105:Nat)<128∧((120:Nat)<128∧(121:Nat)<128)))))))))))))))),decide (((6:Nat)<128∧((7:Nat)<128∧((22:Nat)<128∧((23:Nat)<128∧((38:Nat)<128∧((39:Nat)<128∧((54:Nat)<128∧((55:Nat)<128∧((70:Nat)<128∧((71:Nat)<128∧((86:Nat)<128∧((87:Nat)<128∧((102:Nat)<128∧((103:Nat)<128∧((118:Nat)<128∧(119:Nat)<128)))))))))))))))),decide (((4:Nat)<128∧((5:Nat)<128∧((20:Nat)<128∧((21:Nat)<128∧((36:Nat)<128∧((37:Nat)<128∧((52:Nat)<128∧((53:Nat)<128∧((68:Nat)<128∧((69:Nat)<128∧((84:Nat)<128∧((85:Nat)<128∧((100:Nat)<128∧((101:Nat)<128∧((116:Nat)<128∧(117:Nat)<128)))))))))))))))),decide (((2:Nat)<128∧((3:Nat)<128∧((18:Nat)<128∧((19:Nat)<128∧((34:Nat)<128∧((35:Nat)<128∧((50:Nat)<128∧((51:Nat)<128∧((66:Nat)<128∧((67:Nat)<128∧((82:Nat)<128∧((83:Nat)<128∧((98:Nat)<128∧((99:Nat)<128∧((114:Nat)<128∧(115:Nat)<128)))))))))))))))),decide (((0:Nat)<128∧((1:Nat)<128∧((16:Nat)<128∧((17:Nat)<128∧((32:Nat)<128∧((33:Nat)<128∧((48:Nat)<128∧((49:Nat)<128∧((64:Nat)<128∧((65:Nat)<128∧((80:Nat)<128∧((81:Nat)<128∧((96:Nat)<128∧((97:Nat)<128∧((112:Nat)<128∧(113:Nat)<128)))))))))))))))),decide (((112:Nat)<128∧((113:Nat)<128∧((114:Nat)<128∧((115:Nat)<128∧((116:Nat)<128∧((117:Nat)<128∧((118:Nat)<128∧((119:Nat)<128∧((120:Nat)<128∧((121:Nat)<128∧((122:Nat)<128∧((123:Nat)<128∧((124:Nat)<128∧((125:Nat)<128∧((126:Nat)<128∧(127:Nat)<128)))))))))))))))),decide (((96:Nat)<128∧((97:Nat)<128∧((98:Nat)<128∧((99:Nat)<128∧((100:Nat)<128∧((101:Nat)<128∧((102:Nat)<128∧((103:Nat)<128∧((104:Nat)<128∧((105:Nat)<128∧((106:Nat)<128∧((107:Nat)<128∧((108:Nat)<128∧((109:Nat)<128∧((110:Nat)<128∧(111:Nat)<128)))))))))))))))),decide (((80:Nat)<128∧((81:Nat)<128∧((82:Nat)<128∧((83:Nat)<128∧((84:Nat)<128∧((85:Nat)<128∧((86:Nat)<128∧((87:Nat)<128∧((88:Nat)<128∧((89:Nat)<128∧((90:Nat)<128∧((91:Nat)<128∧((92:Nat)<128∧((93:Nat)<128∧((94:Nat)<128∧(95:Nat)<128)))))))))))))))),decide (((64:Nat)<128∧((65:Nat)<128∧((66:Nat)<128∧((67:Nat)<128∧((68:Nat)<128∧((69:Nat)<128∧((70:Nat)<128∧((71:Nat)<128∧((72:Nat)<128∧((73:Nat)<128∧((74:Nat)<128∧((75:Nat)<128∧((76:Nat)<128∧((77:Nat)<128∧((78:Nat)<128∧(79:Nat)<128)))))))))))))))),decide (((48:Nat)<128∧((49:Nat)<128∧((50:Nat)<128∧((51:Nat)<128∧((52:Nat)<128∧((53:Nat)<128∧((54:Nat)<128∧((55:Nat)<128∧((56:Nat)<128∧((57:Nat)<128∧((58:Nat)<128∧((59:Nat)<128∧((60:Nat)<128∧((61:Nat)<128∧((62:Nat)<128∧(63:Nat)<128)))))))))))))))),decide (((32:Nat)<128∧((33:Nat)<128∧((34:Nat)<128∧((35:Nat)<128∧((36:Nat)<128∧((37:Nat)<128∧((38:Nat)<128∧((39:Nat)<128∧((40:Nat)<128∧((41:Nat)<128∧((42:Nat)<128∧((43:Nat)<128∧((44:Nat)<128∧((45:Nat)<128∧((46:Nat)<128∧(47:Nat)<128)))))))))))))))),decide (((16:Nat)<128∧((17:Nat)<128∧((18:Nat)<128∧((19:Nat)<128∧((20:Nat)<128∧((21:Nat)<128∧((22:Nat)<128∧((23:Nat)<128∧((24:Nat)<128∧((25:Nat)<128∧((26:Nat)<128∧((27:Nat)<128∧((28:Nat)<128∧((29:Nat)<128∧((30:Nat)<128∧(31:Nat)<128)))))))))))))))),decide (((0:Nat)<128∧((1:Nat)<128∧((2:Nat)<128∧((3:Nat)<128∧((4:Nat)<128∧((5:Nat)<128∧((6:Nat)<128∧((7:Nat)<128∧((8:Nat)<128∧((9:Nat)<128∧((10:Nat)<128∧((11:Nat)<128∧((12:Nat)<128∧((13:Nat)<128∧((14:Nat)<128∧(15:Nat)<128)))))))))))))))),decide (((0:Int)≤0∧((0:Int)≤128∧((128:Nat)=128∧((a+128)≤X.n∧((b+128)≤X.n∧((c+128)≤X.n∧((ei f b (false))=(true)∧(ei f c (false))=(true)))))))))]:=by show _=_;kernel_rfl
def acV:C0.Rd:=by
 intro a b d h;change Kb a b=some d at h;unfold Kb at h;repeat' split at h
 all_goals cases h
 exact⟨rfl,rfl⟩
def acW:br 58 C0.spec:=by
 refine C0.ok (dn J4 (acT _)) acV ?_;rintro⟨f,X,b,c,d⟩ a;have a:=bg a;refine⟨[],(some [0]),_,acU f X b c d,?_⟩;obtain⟨e,g,h,i,j,k⟩:=Rn f X b c d;obtain⟨o,p,q,bf,l,m,n⟩:=a
 repeat'(refine aA ?_ ?_)
 all_goals first|exact aX|(simp only[dI,jI,eT,HQ,uE,x4,e,g,h,i,j,k,bf,l,m,n]<;>omega)
def aL(X:U 64)(i:Nat):BitVec 64:=X.l.getD i 0#64
def F4(a:BitVec 64):BitVec 64:=a&&&4294967295#64
def vQ(X:U 64)(a b:Nat):U 64:=X.set a (aL X a+(aL X b+2#64*F4 (aL X a)*F4 (aL X b)))
def vR(X:U 64)(d a n m:Nat):U 64:=X.set d ((aL X d^^^aL X a)>>>n|||(aL X d^^^aL X a)<<<m)
def kw(X:U 64)(a b c d:Nat):U 64:=vR (vQ (vR (vQ (vR (vQ (vR (vQ X a b) d a 32 32) c d) b c 24 40) a b) d a 16 48) c d) b c 63 1
structure Kc where
 (X:U 64)(a b c d:Nat)
def Kd(a:List af)(e:List ah):Option Kc:=
 match a with
 |[.ref (.ptr 0 (.s a)),.ref (.ptr 0 (.s b)),.ref (.ptr 0 (.s c)),.ref (.ptr 0 (.s d))]=>
  match e with
  |[⟨.bw X,.own⟩]=>some ⟨X,a,b,c,d⟩|_=>none
 |_=>none
def Ap:bV Kc where
 d0:=⟨0,0,0,0,0⟩
 read:=Kd
 args:=fun⟨_,a,b,c,d⟩=>[.ref (.ptr 0 (.s a)),.ref (.ptr 0 (.s b)),.ref (.ptr 0 (.s c)),.ref (.ptr 0 (.s d))]
 heap:=fun⟨X,_,_,_,_⟩=>[⟨.bw X,.own⟩]
 out:=fun⟨X,a,b,c,d⟩=>[⟨.bw (kw X a b c d),.own⟩]
 val:=fun⟨_,_,_,_,_⟩=>(.bA [])
 aT:=fun⟨X,a,b,c,d⟩=>decide (a<X.n∧b<X.n∧c<X.n∧d<X.n)
def acX:Ap.Rd:=by
 intro a b d h;change Kd a b=some d at h;unfold Kd at h;repeat' split at h
 all_goals cases h
 exact⟨rfl,rfl⟩
def acY(X:U 64)(a b c d:Nat):Ap.fR ⟨X,a,b,c,d⟩ (some [0]) (b9 ck aU 55) [] [decide (b<X.n),decide (c<X.n),decide (b<X.n),decide (c<X.n),decide (d<X.n),decide (c<X.n),decide (d<X.n),decide (c<X.n),decide (d<X.n),decide (a<X.n),decide (d<X.n),decide (a<X.n),decide (b<X.n),decide (a<X.n),decide (b<X.n),decide (a<X.n),decide (b<X.n),decide (c<X.n),decide (b<X.n),decide (c<X.n),decide (d<X.n),decide (c<X.n),decide (d<X.n),decide (c<X.n),decide (d<X.n),decide (a<X.n),decide (d<X.n),decide (a<X.n),decide (b<X.n),decide (a<X.n),decide (b<X.n),decide (a<X.n)]:=by show _=_;kernel_rfl
def Rp(X:U 64)(a b c d:Nat):(kw X a b c d).n=X.n:=rfl
def acZ:br 55 Ap.spec:=by
 refine Ap.ok (dn fK (cL _)) acX ?_;rintro⟨X,a,b,c,d⟩ e;have e:=bg e;obtain⟨f,g,h,bf⟩:=e;refine⟨_,_,_,acY X a b c d,?_⟩
 repeat'(refine aA ?_ ?_)
 all_goals first|exact aX|exact bu f|exact bu g|exact bu h|exact bu bf|rfl
abbrev Aq:=U 64→Nat→Nat→Nat→Nat→U 64
def Rq(e:Aq):bV Kc:={Ap with out:=fun⟨X,a,b,c,d⟩=>[⟨.bw (e X a b c d),.own⟩]}
def ac0:Rq kw=Ap:=rfl
def Ke(a:Aq):FuncId→Option ay.Spec|55=>some (Rq a).spec|_=>none
def ac1:∀f a,Ke kw f=some a→br f a:=by
 intro f a h;unfold Ke at h;split at h
 ·cases h;rw[ac0];exact acZ
 ·cases h
def lY(i:Int):Nat:=0+i.toNat*1
def Ar(i:Int):Bool:=decide ((0:Int)≤i)&&decide (i<((128:Nat):Int))
def Kf(a b c d e f g h i j k l m n o p:Int):List (Int×Int×Int×Int):=[(a,e,i,m),(b,f,j,n),(c,g,k,o),(d,h,l,p),(a,f,k,p),(b,g,l,m),(c,h,i,n),(d,e,j,o)]
def Kg(e:Aq):List (Int×Int×Int×Int)→U 64→U 64|[],X=>X|(a,b,c,d)::r,X=>Kg e r (e X (lY a) (lY b) (lY c) (lY d))
def Kh(e:Aq):List (Int×Int×Int×Int)→U 64→List Bool|[],_=>[]|(a,b,c,d)::r,X=>Kh e r (e X (lY a) (lY b) (lY c) (lY d))++[decide (lY a<X.n∧lY b<X.n∧lY c<X.n∧lY d<X.n),Ar d,Ar c,Ar b,Ar a]
def Ki(a:Aq)(X:U 64)(b c d e f g h i j k l m n o p q:Int):U 64:=Kg a (Kf b c d e f g h i j k l m n o p q) X
def Kj:∀l X,(Kg kw l X).n=X.n|[],X=>rfl|(a,b,c,d)::r,X=>(Kj r _).trans (Rp ..)
def Rr:∀(l:List (Int×Int×Int×Int)) (X:U 64),X.n=128→(∀t∈l,(0≤t.1∧t.1<128)∧(0≤t.2.1∧t.2.1<128)∧(0≤t.2.2.1∧t.2.2.1<128)∧0≤t.2.2.2∧t.2.2.2<128)→∀f∈Kh kw l X,f=true
 |[],X,_,_,f,e=>by cases e
 |(a,b,c,d)::r,X,i,h,f,e=>by
  have g:=h _ (lK ..);have hi:∀z:Int,0≤z∧z<128→Ar z=true∧lY z<X.n:=fun z j=>⟨by unfold Ar;rw[bu j.1,bu (by omega)];rfl,by unfold lY;omega⟩;rcases fQ.1 e with e|e
  ·exact Rr r _ ((Rp ..).trans i) (fun t k=>h t (ng _ k)) f e
  ·have h1:=hi _ g.1;have h2:=hi _ g.2.1;have h3:=hi _ g.2.2.1;have h4:=hi _ g.2.2.2;exact aA (bu ⟨h1.2,h2.2,h3.2,h4.2⟩) (aA h4.1 (aA h3.1 (aA h2.1 (aA h1.1 aX)))) f e
structure Kk where
 (X:U 64)(i0 i1 i2 i3 i4 i5 i6 i7 i8 i9 i10 i11 i12 i13 i14 i15:Int)
def Kl(a:List af)(b:List ah):Option Kk:=
 match a with
 |[.ref (.ptr 0 (.c 0)),.agg [.num (.int .i64 (.s d)),.num (.int .i64 (.s e)),.num (.int .i64 (.s f)),.num (.int .i64 (.s g)),.num (.int .i64 (.s h)),.num (.int .i64 (.s i)),.num (.int .i64 (.s j)),.num (.int .i64 (.s k)),.num (.int .i64 (.s l)),.num (.int .i64 (.s m)),.num (.int .i64 (.s n)),.num (.int .i64 (.s o)),.num (.int .i64 (.s p)),.num (.int .i64 (.s q)),.num (.int .i64 (.s r)),.num (.int .i64 (.s t))]]=>
  match b with
  |[⟨.bw X,.own⟩]=>some ⟨X,d,e,f,g,h,i,j,k,l,m,n,o,p,q,r,t⟩|_=>none
 |_=>none
def tQ:bV Kk where
 d0:=⟨0,0,0,0,0,0,0,0,0,0,0,0,0,0,0,0,0⟩
 read:=Kl
 args:=fun⟨_,a,b,c,d,e,f,g,h,i,j,k,l,m,o,p,q⟩=>[.P 0,.agg [.au a,.au b,.au c,.au d,.au e,.au f,.au g,.au h,.au i,.au j,.au k,.au l,.au m,.au o,.au p,.au q]]
 heap:=fun⟨X,_,_,_,_,_,_,_,_,_,_,_,_,_,_,_,_⟩=>[⟨.bw X,.own⟩]
 out:=fun⟨X,a,b,c,d,e,f,g,h,i,j,k,l,m,o,p,q⟩=>[⟨.bw (Ki kw X a b c d e f g h i j k l m o p q),.own⟩]
 val:=fun⟨_,_,_,_,_,_,_,_,_,_,_,_,_,_,_,_,_⟩=>(.bA [])
 aT:=fun⟨X,a,b,c,d,e,f,g,h,i,j,k,l,m,o,p,q⟩=>decide ((0≤a∧a<128)∧(0≤b∧b<128)∧(0≤c∧c<128)∧(0≤d∧d<128)∧(0≤e∧e<128)∧(0≤f∧f<128)∧(0≤g∧g<128)∧(0≤h∧h<128)∧(0≤i∧i<128)∧(0≤j∧j<128)∧(0≤k∧k<128)∧(0≤l∧l<128)∧(0≤m∧m<128)∧(0≤o∧o<128)∧(0≤p∧p<128)∧(0≤q∧q<128)∧X.n=128)
def ac2:tQ.Rd:=by
 intro a b d h;change Kl a b=some d at h;unfold Kl at h;repeat' split at h
 all_goals cases h
 exact⟨rfl,rfl⟩
def ac3(q:Aq)(X:U 64)(a b c d e f g h i j k l m n o p:Int):tQ.cE ⟨X,a,b,c,d,e,f,g,h,i,j,k,l,m,n,o,p⟩ (some [0]) (b9 (Ke q) aU 39) [] [⟨.bw (Ki q X a b c d e f g h i j k l m n o p),.own⟩] (tQ.val ⟨X,a,b,c,d,e,f,g,h,i,j,k,l,m,n,o,p⟩) (Kh q (Kf a b c d e f g h i j k l m n o p) X):=by show _=_;kernel_rfl
def ac4:br 39 tQ.spec:=by
 refine tQ.ok (dn ac1 (cL _)) ac2 ?_;rintro⟨X,q,r,s,u,v,w,x,y,z,A,B,C,D,E,F,H⟩ a;have a:=bg a;obtain⟨b,c,d,e,bf,f,g,h,cF,i,j,k,l,m,n,o,I⟩:=a;refine⟨_,_,_,ac3 kw X q r s u v w x y z A B C D E F H,Rr _ X I fun t p=>?_⟩;simp only[Kf,jJ,HS,HT]at p;rcases p with rfl|rfl|rfl|rfl|rfl|rfl|rfl|rfl
 ·exact⟨b,bf,cF,l⟩
 ·exact⟨c,f,i,m⟩
 ·exact⟨d,g,j,n⟩
 ·exact⟨e,h,k,o⟩
 ·exact⟨b,f,j,o⟩
 ·exact⟨c,g,k,l⟩
 ·exact⟨d,h,cF,m⟩
 ·exact⟨e,bf,i,n⟩
def gH(a m c:BitVec 64)(d b:BitVec 32):BitVec 32:=d*b+((c+m-((((a&&&4294967295#64)*(a&&&4294967295#64))>>>32*m)>>>32+1#64))%b.setWidth 64).setWidth 32
def eG(a:BitVec 64)(p n sl k:BitVec 32):BitVec 32:=if n=0#32∧sl=0#32 then k else(a>>>32).setWidth 32%p
def gm(a n sl k b c:BitVec 32):BitVec 32:=if n=0#32 then(if sl=0#32∨k=c then sl*a+b else sl*a)else(if k=c then 3#32*a+b else 3#32*a)
def cq(a:BitVec 64)(d b p n sl k c:BitVec 32):BitVec 32:=
 gH a ((if c=0#32∨k=eG a p n sl k then gm b n sl k c (eG a p n sl k)-1#32 else gm b n sl k c (eG a p n sl k)).setWidth 64) ((if n=0#32 then 0#32 else((sl+1#32)%4#32)*b).setWidth 64) (eG a p n sl k) d
structure Rs where
 (x:BitVec 64)(ln aB p n sl k ix:BitVec 32)
def Km(a:List af)(b:List ah):Option Rs:=
 match a with
 |[.num (.av c),.num (.aF d),.num (.aF e),.num (.aF p),.num (.aF n),.num (.aF sl),.num (.aF k),.num (.aF f)]=>
  match b with
  |[]=>some ⟨c,d,e,p,n,sl,k,f⟩|_=>none
 |_=>none
def nP:bV Rs where
 d0:=⟨0,0,0,0,0,0,0,0⟩
 read:=Km
 args:=fun⟨c,a,d,p,n,sl,k,b⟩=>[.num (.av c),.num (.aF a),.num (.aF d),.num (.aF p),.num (.aF n),.num (.aF sl),.num (.aF k),.num (.aF b)]
 heap:=fun _=>[]
 val:=fun⟨c,a,d,p,n,sl,k,b⟩=>(.aF (cq c a d p n sl k b))
 aT:=fun⟨_,a,_,p,n,sl,_,b⟩=>decide (p≠0#32∧a≠0#32∧(n=0#32→sl=0#32→b≠0#32))
def ac5:nP.Rd:=by
 intro a b d h;change Km a b=some d at h;unfold Km at h;repeat' split at h
 all_goals cases h
 exact⟨rfl,rfl⟩
def ac6(c:BitVec 64)(b d p n sl k a:BitVec 32):nK 0 none [] (.aF (gH c ((sl*d+a-1#32).setWidth 64) ((0#32).setWidth 64) k b)) (b9 ck aU 46 (nP.args ⟨c,b,d,p,n,sl,k,a⟩) ⟨[],bQ,(bt 15 17407),[]⟩) [((b.setWidth 64)!=(0#64)),((k==k)==true),((a==(0#32))==false),((a==(0#32))==false),((a==(0#32))==false),((a==(0#32))==false),((sl==(0#32))==true),((sl==(0#32))==true),((sl==(0#32))==true),((sl==(0#32))==true),((n==(0#32))==true),((k==k)==true),((4#32)!=(0#32)),((sl==(0#32))==true),((n==(0#32))==true),((n==(0#32))==true),((n==(0#32))==true),(p !=(0#32))]:=by show _=_;kernel_rfl
def ac7(b:BitVec 64)(c d p n sl k a:BitVec 32):nK 0 none [] (.aF (gH b ((sl*d+a-1#32).setWidth 64) ((0#32).setWidth 64) ((b>>>32).setWidth 32%p) c)) (b9 ck aU 46 (nP.args ⟨b,c,d,p,n,sl,k,a⟩) ⟨[],bQ,(bt 15 31799),[]⟩) [((c.setWidth 64)!=(0#64)),((a==(0#32))==true),((a==(0#32))==true),((a==(0#32))==true),((a==(0#32))==true),((k==(((b>>>32).setWidth 32)%p))==true),((sl==(0#32))==false),((sl==(0#32))==false),((sl==(0#32))==false),((sl==(0#32))==false),((n==(0#32))==true),((k==(((b>>>32).setWidth 32)%p))==true),((4#32)!=(0#32)),((sl==(0#32))==false),((n==(0#32))==true),((n==(0#32))==true),((n==(0#32))==true),(p !=(0#32))]:=by show _=_;kernel_rfl
def ac8(a:BitVec 64)(c d p n sl k b:BitVec 32):nK 0 none [] (.aF (gH a ((sl*d+b-1#32).setWidth 64) ((0#32).setWidth 64) ((a>>>32).setWidth 32%p) c)) (b9 ck aU 46 (nP.args ⟨a,c,d,p,n,sl,k,b⟩) ⟨[],bQ,(bt 16 33847),[]⟩) [((c.setWidth 64)!=(0#64)),((k==(((a>>>32).setWidth 32)%p))==true),((b==(0#32))==false),((b==(0#32))==false),((b==(0#32))==false),((b==(0#32))==false),((k==(((a>>>32).setWidth 32)%p))==true),((sl==(0#32))==false),((sl==(0#32))==false),((sl==(0#32))==false),((sl==(0#32))==false),((n==(0#32))==true),((k==(((a>>>32).setWidth 32)%p))==true),((4#32)!=(0#32)),((sl==(0#32))==false),((n==(0#32))==true),((n==(0#32))==true),((n==(0#32))==true),(p !=(0#32))]:=by show _=_;kernel_rfl
def ac9(a:BitVec 64)(c d p n sl k b:BitVec 32):nK 0 none [] (.aF (gH a ((sl*d-1#32).setWidth 64) ((0#32).setWidth 64) ((a>>>32).setWidth 32%p) c)) (b9 ck aU 46 (nP.args ⟨a,c,d,p,n,sl,k,b⟩) ⟨[],bQ,(bt 15 30759),[]⟩) [((c.setWidth 64)!=(0#64)),((b==(0#32))==true),((b==(0#32))==true),((b==(0#32))==true),((b==(0#32))==true),((k==(((a>>>32).setWidth 32)%p))==false),((sl==(0#32))==false),((sl==(0#32))==false),((sl==(0#32))==false),((sl==(0#32))==false),((n==(0#32))==true),((k==(((a>>>32).setWidth 32)%p))==false),((4#32)!=(0#32)),((sl==(0#32))==false),((n==(0#32))==true),((n==(0#32))==true),((n==(0#32))==true),(p !=(0#32))]:=by show _=_;kernel_rfl
def ada(a:BitVec 64)(c d p n sl k b:BitVec 32):nK 0 none [] (.aF (gH a ((sl*d).setWidth 64) ((0#32).setWidth 64) ((a>>>32).setWidth 32%p) c)) (b9 ck aU 46 (nP.args ⟨a,c,d,p,n,sl,k,b⟩) ⟨[],bQ,(bt 16 39),[]⟩) [((c.setWidth 64)!=(0#64)),((k==(((a>>>32).setWidth 32)%p))==false),((b==(0#32))==false),((b==(0#32))==false),((b==(0#32))==false),((b==(0#32))==false),((k==(((a>>>32).setWidth 32)%p))==false),((sl==(0#32))==false),((sl==(0#32))==false),((sl==(0#32))==false),((sl==(0#32))==false),((n==(0#32))==true),((k==(((a>>>32).setWidth 32)%p))==false),((4#32)!=(0#32)),((sl==(0#32))==false),((n==(0#32))==true),((n==(0#32))==true),((n==(0#32))==true),(p !=(0#32))]:=by show _=_;kernel_rfl
def adb(b:BitVec 64)(c d p n sl k a:BitVec 32):nK 0 none [] (.aF (gH b ((3#32*d+a-1#32).setWidth 64) ((((sl+1#32)%4#32)*d).setWidth 64) ((b>>>32).setWidth 32%p) c)) (b9 ck aU 46 (nP.args ⟨b,c,d,p,n,sl,k,a⟩) ⟨[],bQ,(bt 9 488),[]⟩) [((c.setWidth 64)!=(0#64)),((a==(0#32))==true),((a==(0#32))==true),((a==(0#32))==true),((a==(0#32))==true),((n==(0#32))==false),((k==(((b>>>32).setWidth 32)%p))==true),((4#32)!=(0#32)),((n==(0#32))==false),((n==(0#32))==false),((n==(0#32))==false),(p !=(0#32))]:=by show _=_;kernel_rfl
def ade(b:BitVec 64)(c d p n sl k a:BitVec 32):nK 0 none [] (.aF (gH b ((3#32*d+a-1#32).setWidth 64) ((((sl+1#32)%4#32)*d).setWidth 64) ((b>>>32).setWidth 32%p) c)) (b9 ck aU 46 (nP.args ⟨b,c,d,p,n,sl,k,a⟩) ⟨[],bQ,(bt 10 520),[]⟩) [((c.setWidth 64)!=(0#64)),((k==(((b>>>32).setWidth 32)%p))==true),((a==(0#32))==false),((a==(0#32))==false),((a==(0#32))==false),((a==(0#32))==false),((n==(0#32))==false),((k==(((b>>>32).setWidth 32)%p))==true),((4#32)!=(0#32)),((n==(0#32))==false),((n==(0#32))==false),((n==(0#32))==false),(p !=(0#32))]:=by show _=_;kernel_rfl
def adf(b:BitVec 64)(c d p n sl k a:BitVec 32):nK 0 none [] (.aF (gH b ((3#32*d-1#32).setWidth 64) ((((sl+1#32)%4#32)*d).setWidth 64) ((b>>>32).setWidth 32%p) c)) (b9 ck aU 46 (nP.args ⟨b,c,d,p,n,sl,k,a⟩) ⟨[],bQ,(bt 9 480),[]⟩) [((c.setWidth 64)!=(0#64)),((a==(0#32))==true),((a==(0#32))==true),((a==(0#32))==true),((a==(0#32))==true),((n==(0#32))==false),((k==(((b>>>32).setWidth 32)%p))==false),((4#32)!=(0#32)),((n==(0#32))==false),((n==(0#32))==false),((n==(0#32))==false),(p !=(0#32))]:=by show _=_;kernel_rfl
def adg(a:BitVec 64)(c d p n sl k b:BitVec 32):nK 0 none [] (.aF (gH a ((3#32*d).setWidth 64) ((((sl+1#32)%4#32)*d).setWidth 64) ((a>>>32).setWidth 32%p) c)) (b9 ck aU 46 (nP.args ⟨a,c,d,p,n,sl,k,b⟩) ⟨[],bQ,(bt 10 0),[]⟩) [((c.setWidth 64)!=(0#64)),((k==(((a>>>32).setWidth 32)%p))==false),((b==(0#32))==false),((b==(0#32))==false),((b==(0#32))==false),((b==(0#32))==false),((n==(0#32))==false),((k==(((a>>>32).setWidth 32)%p))==false),((4#32)!=(0#32)),((n==(0#32))==false),((n==(0#32))==false),((n==(0#32))==false),(p !=(0#32))]:=by show _=_;kernel_rfl
def adh:br 46 nP.spec:=by
 refine nP.ok (dn fK (cL _)) ac5 ?_;rintro⟨a,c,b,p,n,sl,k,d⟩ m;have m:=bg m;obtain⟨j,o,q⟩:=m;have l:c.setWidth 64≠0#64:=fun h=>o (by
  apply mo;have:=iX BitVec.toNat h;simpa[dO (show c.toNat<2^64 by have:=c.isLt;omega)]using this)
 show∃r s cs,qS 0 s [] (.num (.aF (cq a c b p n sl k d))) (b9 ck aU 46 (nP.args ⟨a,c,b,p,n,sl,k,d⟩) ⟨[],bQ,r,[]⟩)=some ([],.num (.aF (cq a c b p n sl k d)),cs)∧∀a∈cs,a=true;by_cases e:n=0#32
 ·by_cases i:sl=0#32
  ·have hi:=q e i;have f:cq a c b p n sl k d=gH a ((sl*b+d-1#32).setWidth 64) ((0#32).setWidth 64) k c:=by unfold cq gm eG;simp[e,i,hi]
   rw[f];refine⟨_,_,_,ac6 a c b p n sl k d,?_⟩
   repeat'(refine aA ?_ ?_)
   all_goals first|exact aX|rfl|(simp[j,l,e,i,hi];done)
  ·by_cases g:k=(a>>>32).setWidth 32%p
   ·by_cases hi:d=0#32
    ·have f:cq a c b p n sl k d=gH a ((sl*b+d-1#32).setWidth 64) ((0#32).setWidth 64) ((a>>>32).setWidth 32%p) c:=by unfold cq gm eG;simp[e,i,←g,hi]
     rw[f];refine⟨_,_,_,ac7 a c b p n sl k d,?_⟩
     repeat'(refine aA ?_ ?_)
     all_goals first|exact aX|rfl|(simp[j,l,e,i,←g,hi];done)
    ·have f:cq a c b p n sl k d=gH a ((sl*b+d-1#32).setWidth 64) ((0#32).setWidth 64) ((a>>>32).setWidth 32%p) c:=by unfold cq gm eG;simp[e,i,←g,hi]
     rw[f];refine⟨_,_,_,ac8 a c b p n sl k d,?_⟩
     repeat'(refine aA ?_ ?_)
     all_goals first|exact aX|rfl|(simp[j,l,e,i,←g,hi];done)
   ·by_cases hi:d=0#32
    ·have f:cq a c b p n sl k d=gH a ((sl*b-1#32).setWidth 64) ((0#32).setWidth 64) ((a>>>32).setWidth 32%p) c:=by unfold cq gm eG;simp[e,i,g,hi]
     rw[f];refine⟨_,_,_,ac9 a c b p n sl k d,?_⟩
     repeat'(refine aA ?_ ?_)
     all_goals first|exact aX|rfl|(simp[j,l,e,i,g,hi];done)
    ·have f:cq a c b p n sl k d=gH a ((sl*b).setWidth 64) ((0#32).setWidth 64) ((a>>>32).setWidth 32%p) c:=by unfold cq gm eG;simp[e,i,g,hi]
     rw[f];refine⟨_,_,_,ada a c b p n sl k d,?_⟩
     repeat'(refine aA ?_ ?_)
     all_goals first|exact aX|rfl|(simp[j,l,e,i,g,hi];done)
 ·by_cases g:k=(a>>>32).setWidth 32%p
  ·by_cases hi:d=0#32
   ·have f:cq a c b p n sl k d=gH a ((3#32*b+d-1#32).setWidth 64) ((((sl+1#32)%4#32)*b).setWidth 64) ((a>>>32).setWidth 32%p) c:=by unfold cq gm eG;simp[e,←g,hi]
    rw[f];refine⟨_,_,_,adb a c b p n sl k d,?_⟩
    repeat'(refine aA ?_ ?_)
    all_goals first|exact aX|rfl|(simp[j,l,e,←g,hi];done)
   ·have f:cq a c b p n sl k d=gH a ((3#32*b+d-1#32).setWidth 64) ((((sl+1#32)%4#32)*b).setWidth 64) ((a>>>32).setWidth 32%p) c:=by unfold cq gm eG;simp[e,←g,hi]
    rw[f];refine⟨_,_,_,ade a c b p n sl k d,?_⟩
    repeat'(refine aA ?_ ?_)
    all_goals first|exact aX|rfl|(simp[j,l,e,←g,hi];done)
  ·by_cases hi:d=0#32
   ·have f:cq a c b p n sl k d=gH a ((3#32*b-1#32).setWidth 64) ((((sl+1#32)%4#32)*b).setWidth 64) ((a>>>32).setWidth 32%p) c:=by unfold cq gm eG;simp[e,g,hi]
    rw[f];refine⟨_,_,_,adf a c b p n sl k d,?_⟩
    repeat'(refine aA ?_ ?_)
    all_goals first|exact aX|rfl|(simp[j,l,e,g,hi];done)
   ·have f:cq a c b p n sl k d=gH a ((3#32*b).setWidth 64) ((((sl+1#32)%4#32)*b).setWidth 64) ((a>>>32).setWidth 32%p) c:=by unfold cq gm eG;simp[e,g,hi]
    rw[f];refine⟨_,_,_,adg a c b p n sl k d,?_⟩
    repeat'(refine aA ?_ ?_)
    all_goals first|exact aX|rfl|(simp[j,l,e,g,hi];done)
def di(a:U 64):U 64:=U.of ((List.range 128).map fun i=>a.l.getD i 0#64)
def dy(v:U 64):U 64:=U.of ((List.range 128).map fun i=>match Nat.beq i 6 with|true=>v.l.getD 6 0#64+1#64|false=>v.l.getD i 0#64)
def eH(a:U 64→U 64→U 64)(b z:U 64):U 64:=a (di (a (di b) (di z))) (di z)
def aS(b:BitVec 32):Nat:=0+((b.toNat:Int)).toNat*128
def dG(m:Int)(n sl:BitVec 32):Prop:=m=1∨(m=2∧n=0#32∧BitVec.ult sl 2#32=true)
instance(m:Int)(n sl:BitVec 32):Decidable (dG m n sl):=inferInstanceAs (Decidable (_∨_))
def ey(b sl c a:BitVec 32):BitVec 32:=if c=0#32∧sl=0#32 then a-1#32+b else a-1#32
def lZ(f:cx)(X:U 64)(a b c:BitVec 32):Bool:=decide (aS a+128≤X.n∧aS b+128≤X.n∧aS c+128≤X.n∧ei f (aS a) false=true∧ei f (aS a) true=true∧ei f (aS b) false=true∧ei f (aS c) false=true)
def cS(M:Nat)(b:BitVec 32):Bool:=decide ((0:Int)≤(b.toNat:Int))&&decide ((b.toNat:Int)<(M:Int))
def mW(p a n sl b:BitVec 32):Bool:=decide (p≠0#32∧a≠0#32∧(n=0#32→sl=0#32→b≠0#32))
def vS(a:BitVec 32):Bool:=decide (0+((((a%128#32).toNat:Nat):Int)).toNat*1<128)
def gI(ad:U 64)(a:BitVec 32):BitVec 64:=(di ad).l.getD (0+((((a%128#32).toNat:Nat):Int)).toNat*1) 0#64
def fY(X:U 64)(a:BitVec 32):BitVec 64:=X.l.getD (aS a+0) 0#64
def Rt(b:U 64→U 64→U 64):bV F1:={vN with out:=fun⟨_,x,a⟩=>[⟨.gen (dU (b x a) 128),.own⟩,⟨.gen (dU x 128),.own⟩,⟨.gen (dU a 128),.ro⟩]}
def Ru(b:U 64→U 64→U 64):bV F2:={vO with out:=fun⟨c,a⟩=>[⟨.gen (dU (b c a) 128),.own⟩,⟨.gen (dU a 128),.ro⟩]}
def adi:Rt bz=vN:=rfl
def adj:Ru bz=vO:=rfl
def Rv(a:U 64→U 64→U 64):ay.Spec:=fW C0.spec (fW (Rt a).spec (Ru a).spec)
def adk:br 58 (Rv bz):=dF.or acW (dF.or (by rw[adi];exact acy) (by rw[adj];exact acB))
def fL(a:U 64→U 64→U 64):FuncId→Option ay.Spec|46=>some nP.spec|58=>some (Rv a)|_=>none
def F5:∀f a,fL bz f=some a→br f a:=by
 intro f a h;unfold fL at h;split at h
 ·cases h;exact adh
 ·cases h;exact adk
 ·cases h
structure l5 where
 (f:cx)(X ad aoH z:U 64)(M:Nat)(m:Int)(mem tm ln aB p n sl k ix off:BitVec 32)(kz:Value)
def eO(d:l5):aJ×List ah:=
 match d with
 |⟨f,X,ad,a,z,M,m,mem,tm,b,c,p,n,sl,k,e,g,h⟩=>(⟨[.num (.aF n),.num (.aF sl),.num (.aF k),.atom (.exact h),.P 1,.P 2,.P 3,.P 4,.P 5,.P 6,.P 7,.aa,.aa,.aa,.aa,.P 8,.P 9,.P 10,.num (.aF e),.num (.aF g),.aa,.aa,.aa],[]⟩,[⟨.lim f X,.own⟩,⟨.gen [.au m],.ro⟩,⟨.gen [.num (.aF mem)],.ro⟩,⟨.gen [.num (.aF tm)],.ro⟩,⟨.gen [.num (.aF b)],.ro⟩,⟨.gen [.num (.aF c)],.ro⟩,⟨.gen [.ref (.sm 0 (.s M) 128)],.ro⟩,⟨.gen [.num (.aF p)],.ro⟩,⟨.gen (dU ad 128),.own⟩,⟨.gen (dU a 128),.own⟩,⟨.gen (dU z 128),.ro⟩])
def dH(g:U 64→U 64→U 64)(d:l5):l5:=
 match d with
 |⟨f,X,ad,b,z,M,m,mem,tm,c,h,p,n,sl,k,a,e,i⟩=>⟨f,fo f X (aS e) (aS (ey c sl a e)) (aS (cq (if dG m n sl then gI (if a=0#32 then eH g (dy b) z else ad) a else fY X (ey c sl a e)) c h p n sl k a)),(if dG m n sl∧a=0#32 then eH g (dy b) z else ad),(if dG m n sl∧a=0#32 then dy b else b),z,M,m,mem,tm,c,h,p,n,sl,k,a+1#32,e+1#32,i⟩
def adl(g:U 64→U 64→U 64)(f:cx)(X ad d z:U 64)(M:Nat)(m:Int)(mem tm b e p n sl k a c:BitVec 32)(h:Value):jc eO 11 ⟨f,X,ad,d,z,M,m,mem,tm,b,e,p,n,sl,k,a,c,h⟩ (b8 11) (eO ⟨f,fo f X (aS c) (aS (c-1#32+b)) (aS (cq (gI (eH g (dy d) z) a) b e p n sl k a)),eH g (dy d) z,dy d,z,M,m,mem,tm,b,e,p,n,sl,k,a+1#32,c+1#32,h⟩) (bZ (fL g) aU 44 0) (bt 13 8191) .normal [lZ f X c (c-1#32+b) (cq (gI (eH g (dy d) z) a) b e p n sl k a),cS M (cq (gI (eH g (dy d) z) a) b e p n sl k a),cS M (c-1#32+b),cS M c,mW p b n sl a,vS a,cS 128 (a%128#32),(128#32 !=0#32),decide True,decide True,((a%128#32==0#32)==true),(128#32 !=0#32),((m==1)==true),((m==1)==true),((m==1)==true),((m==1)==true),((m==1)==true),((m==1)==true),((m==1)==true),((sl==0#32)==true),((a==0#32)==true),((a==0#32)==true),((a==0#32)==true),(decide (a.toNat<e.toNat)==true)]:=by show _=_;kernel_rfl
def adm(g:U 64→U 64→U 64)(f:cx)(X ad c z:U 64)(M:Nat)(m:Int)(mem tm d e p n sl k a b:BitVec 32)(h:Value):jc eO 11 ⟨f,X,ad,c,z,M,m,mem,tm,d,e,p,n,sl,k,a,b,h⟩ (b8 11) (eO ⟨f,fo f X (aS b) (aS (b-1#32)) (aS (cq (gI (eH g (dy c) z) a) d e p n sl k a)),eH g (dy c) z,dy c,z,M,m,mem,tm,d,e,p,n,sl,k,a+1#32,b+1#32,h⟩) (bZ (fL g) aU 44 0) (bt 13 8175) .normal [lZ f X b (b-1#32) (cq (gI (eH g (dy c) z) a) d e p n sl k a),cS M (cq (gI (eH g (dy c) z) a) d e p n sl k a),cS M (b-1#32),cS M b,mW p d n sl a,vS a,cS 128 (a%128#32),(128#32 !=0#32),decide True,decide True,((a%128#32==0#32)==true),(128#32 !=0#32),((m==1)==true),((m==1)==true),((m==1)==true),((m==1)==true),((m==1)==true),((m==1)==true),((m==1)==true),((sl==0#32)==false),((a==0#32)==true),((a==0#32)==true),((a==0#32)==true),(decide (a.toNat<e.toNat)==true)]:=by show _=_;kernel_rfl
def adn(h:U 64→U 64→U 64)(f:cx)(X ad e z:U 64)(M:Nat)(m:Int)(mem tm c d p n sl k a b:BitVec 32)(g:Value):jc eO 11 ⟨f,X,ad,e,z,M,m,mem,tm,c,d,p,n,sl,k,a,b,g⟩ (b8 11) (eO ⟨f,fo f X (aS b) (aS (b-1#32)) (aS (cq (gI ad a) c d p n sl k a)),ad,e,z,M,m,mem,tm,c,d,p,n,sl,k,a+1#32,b+1#32,g⟩) (bZ (fL h) aU 44 0) (bt 12 2033) .normal [lZ f X b (b-1#32) (cq (gI ad a) c d p n sl k a),cS M (cq (gI ad a) c d p n sl k a),cS M (b-1#32),cS M b,mW p c n sl a,vS a,cS 128 (a%128#32),(128#32 !=0#32),((a%128#32==0#32)==false),(128#32 !=0#32),((m==1)==true),((m==1)==true),((m==1)==true),((m==1)==true),((m==1)==true),((m==1)==true),((m==1)==true),((a==0#32)==false),((a==0#32)==false),((a==0#32)==false),(decide (a.toNat<d.toNat)==true)]:=by show _=_;kernel_rfl
def ado(g:U 64→U 64→U 64)(f:cx)(X ad d z:U 64)(M:Nat)(m:Int)(mem tm b e p n sl k a c:BitVec 32)(h:Value):jc eO 11 ⟨f,X,ad,d,z,M,m,mem,tm,b,e,p,n,sl,k,a,c,h⟩ (b8 11) (eO ⟨f,fo f X (aS c) (aS (c-1#32+b)) (aS (cq (gI (eH g (dy d) z) a) b e p n sl k a)),eH g (dy d) z,dy d,z,M,m,mem,tm,b,e,p,n,sl,k,a+1#32,c+1#32,h⟩) (bZ (fL g) aU 44 0) (bt 20 879391) .normal [lZ f X c (c-1#32+b) (cq (gI (eH g (dy d) z) a) b e p n sl k a),cS M (cq (gI (eH g (dy d) z) a) b e p n sl k a),cS M (c-1#32+b),cS M c,mW p b n sl a,vS a,cS 128 (a%128#32),(128#32 !=0#32),decide True,decide True,((a%128#32==0#32)==true),(128#32 !=0#32),(decide (sl.toNat<(2#32).toNat)==true),((m==1)==false),((n==0#32)==true),((m==1)==false),((n==0#32)==true),((n==0#32)==true),((m==1)==false),((m==2)==true),((m==1)==false),((m==2)==true),((m==2)==true),((m==1)==false),((m==1)==false),((m==1)==false),((sl==0#32)==true),((a==0#32)==true),((a==0#32)==true),((a==0#32)==true),(decide (a.toNat<e.toNat)==true)]:=by show _=_;kernel_rfl
def adp(g:U 64→U 64→U 64)(f:cx)(X ad c z:U 64)(M:Nat)(m:Int)(mem tm d e p n sl k a b:BitVec 32)(h:Value):jc eO 11 ⟨f,X,ad,c,z,M,m,mem,tm,d,e,p,n,sl,k,a,b,h⟩ (b8 11) (eO ⟨f,fo f X (aS b) (aS (b-1#32)) (aS (cq (gI (eH g (dy c) z) a) d e p n sl k a)),eH g (dy c) z,dy c,z,M,m,mem,tm,d,e,p,n,sl,k,a+1#32,b+1#32,h⟩) (bZ (fL g) aU 44 0) (bt 20 879375) .normal [lZ f X b (b-1#32) (cq (gI (eH g (dy c) z) a) d e p n sl k a),cS M (cq (gI (eH g (dy c) z) a) d e p n sl k a),cS M (b-1#32),cS M b,mW p d n sl a,vS a,cS 128 (a%128#32),(128#32 !=0#32),decide True,decide True,((a%128#32==0#32)==true),(128#32 !=0#32),(decide (sl.toNat<(2#32).toNat)==true),((m==1)==false),((n==0#32)==true),((m==1)==false),((n==0#32)==true),((n==0#32)==true),((m==1)==false),((m==2)==true),((m==1)==false),((m==2)==true),((m==2)==true),((m==1)==false),((m==1)==false),((m==1)==false),((sl==0#32)==false),((a==0#32)==true),((a==0#32)==true),((a==0#32)==true),(decide (a.toNat<e.toNat)==true)]:=by show _=_;kernel_rfl
def adq(h:U 64→U 64→U 64)(f:cx)(X ad e z:U 64)(M:Nat)(m:Int)(mem tm c d p n sl k a b:BitVec 32)(g:Value):jc eO 11 ⟨f,X,ad,e,z,M,m,mem,tm,c,d,p,n,sl,k,a,b,g⟩ (b8 11) (eO ⟨f,fo f X (aS b) (aS (b-1#32)) (aS (cq (gI ad a) c d p n sl k a)),ad,e,z,M,m,mem,tm,c,d,p,n,sl,k,a+1#32,b+1#32,g⟩) (bZ (fL h) aU 44 0) (bt 19 177537) .normal [lZ f X b (b-1#32) (cq (gI ad a) c d p n sl k a),cS M (cq (gI ad a) c d p n sl k a),cS M (b-1#32),cS M b,mW p c n sl a,vS a,cS 128 (a%128#32),(128#32 !=0#32),((a%128#32==0#32)==false),(128#32 !=0#32),(decide (sl.toNat<(2#32).toNat)==true),((m==1)==false),((n==0#32)==true),((m==1)==false),((n==0#32)==true),((n==0#32)==true),((m==1)==false),((m==2)==true),((m==1)==false),((m==2)==true),((m==2)==true),((m==1)==false),((m==1)==false),((m==1)==false),((a==0#32)==false),((a==0#32)==false),((a==0#32)==false),(decide (a.toNat<d.toNat)==true)]:=by show _=_;kernel_rfl
def adr(h:U 64→U 64→U 64)(f:cx)(X ad e z:U 64)(M:Nat)(m:Int)(mem tm a d p n sl k c b:BitVec 32)(g:Value):jc eO 11 ⟨f,X,ad,e,z,M,m,mem,tm,a,d,p,n,sl,k,c,b,g⟩ (b8 11) (eO ⟨f,fo f X (aS b) (aS (b-1#32+a)) (aS (cq (fY X (b-1#32+a)) a d p n sl k c)),ad,e,z,M,m,mem,tm,a,d,p,n,sl,k,c+1#32,b+1#32,g⟩) (bZ (fL h) aU 44 0) (bt 15 31) .normal [lZ f X b (b-1#32+a) (cq (fY X (b-1#32+a)) a d p n sl k c),cS M (cq (fY X (b-1#32+a)) a d p n sl k c),cS M (b-1#32+a),cS M b,mW p a n sl c,f (aS (b-1#32+a)+0) false,decide (aS (b-1#32+a)+0<X.n),cS M (b-1#32+a),((m==1)==false),((m==1)==false),((m==1)==false),((m==2)==false),((m==1)==false),((m==2)==false),((m==2)==false),((m==1)==false),((m==1)==false),((m==1)==false),((sl==0#32)==true),((c==0#32)==true),((c==0#32)==true),((c==0#32)==true),(decide (c.toNat<d.toNat)==true)]:=by show _=_;kernel_rfl
def ads(h:U 64→U 64→U 64)(f:cx)(X ad e z:U 64)(M:Nat)(m:Int)(mem tm c d p n sl k b a:BitVec 32)(g:Value):jc eO 11 ⟨f,X,ad,e,z,M,m,mem,tm,c,d,p,n,sl,k,b,a,g⟩ (b8 11) (eO ⟨f,fo f X (aS a) (aS (a-1#32)) (aS (cq (fY X (a-1#32)) c d p n sl k b)),ad,e,z,M,m,mem,tm,c,d,p,n,sl,k,b+1#32,a+1#32,g⟩) (bZ (fL h) aU 44 0) (bt 15 15) .normal [lZ f X a (a-1#32) (cq (fY X (a-1#32)) c d p n sl k b),cS M (cq (fY X (a-1#32)) c d p n sl k b),cS M (a-1#32),cS M a,mW p c n sl b,f (aS (a-1#32)+0) false,decide (aS (a-1#32)+0<X.n),cS M (a-1#32),((m==1)==false),((m==1)==false),((m==1)==false),((m==2)==false),((m==1)==false),((m==2)==false),((m==2)==false),((m==1)==false),((m==1)==false),((m==1)==false),((sl==0#32)==false),((b==0#32)==true),((b==0#32)==true),((b==0#32)==true),(decide (b.toNat<d.toNat)==true)]:=by show _=_;kernel_rfl
def adt(h:U 64→U 64→U 64)(f:cx)(X ad e z:U 64)(M:Nat)(m:Int)(mem tm c d p n sl k b a:BitVec 32)(g:Value):jc eO 11 ⟨f,X,ad,e,z,M,m,mem,tm,c,d,p,n,sl,k,b,a,g⟩ (b8 11) (eO ⟨f,fo f X (aS a) (aS (a-1#32)) (aS (cq (fY X (a-1#32)) c d p n sl k b)),ad,e,z,M,m,mem,tm,c,d,p,n,sl,k,b+1#32,a+1#32,g⟩) (bZ (fL h) aU 44 0) (bt 14 1) .normal [lZ f X a (a-1#32) (cq (fY X (a-1#32)) c d p n sl k b),cS M (cq (fY X (a-1#32)) c d p n sl k b),cS M (a-1#32),cS M a,mW p c n sl b,f (aS (a-1#32)+0) false,decide (aS (a-1#32)+0<X.n),cS M (a-1#32),((m==1)==false),((m==1)==false),((m==1)==false),((m==2)==false),((m==1)==false),((m==2)==false),((m==2)==false),((m==1)==false),((m==1)==false),((m==1)==false),((b==0#32)==false),((b==0#32)==false),((b==0#32)==false),(decide (b.toNat<d.toNat)==true)]:=by show _=_;kernel_rfl
def adu(h:U 64→U 64→U 64)(f:cx)(X ad e z:U 64)(M:Nat)(m:Int)(mem tm a d p n sl k c b:BitVec 32)(g:Value):jc eO 11 ⟨f,X,ad,e,z,M,m,mem,tm,a,d,p,n,sl,k,c,b,g⟩ (b8 11) (eO ⟨f,fo f X (aS b) (aS (b-1#32+a)) (aS (cq (fY X (b-1#32+a)) a d p n sl k c)),ad,e,z,M,m,mem,tm,a,d,p,n,sl,k,c+1#32,b+1#32,g⟩) (bZ (fL h) aU 44 0) (bt 18 2847) .normal [lZ f X b (b-1#32+a) (cq (fY X (b-1#32+a)) a d p n sl k c),cS M (cq (fY X (b-1#32+a)) a d p n sl k c),cS M (b-1#32+a),cS M b,mW p a n sl c,f (aS (b-1#32+a)+0) false,decide (aS (b-1#32+a)+0<X.n),cS M (b-1#32+a),((m==1)==false),((n==0#32)==false),((m==1)==false),((n==0#32)==false),((n==0#32)==false),((m==1)==false),((m==2)==true),((m==1)==false),((m==2)==true),((m==2)==true),((m==1)==false),((m==1)==false),((m==1)==false),((sl==0#32)==true),((c==0#32)==true),((c==0#32)==true),((c==0#32)==true),(decide (c.toNat<d.toNat)==true)]:=by show _=_;kernel_rfl
def adv(h:U 64→U 64→U 64)(f:cx)(X ad e z:U 64)(M:Nat)(m:Int)(mem tm c d p n sl k b a:BitVec 32)(g:Value):jc eO 11 ⟨f,X,ad,e,z,M,m,mem,tm,c,d,p,n,sl,k,b,a,g⟩ (b8 11) (eO ⟨f,fo f X (aS a) (aS (a-1#32)) (aS (cq (fY X (a-1#32)) c d p n sl k b)),ad,e,z,M,m,mem,tm,c,d,p,n,sl,k,b+1#32,a+1#32,g⟩) (bZ (fL h) aU 44 0) (bt 18 2831) .normal [lZ f X a (a-1#32) (cq (fY X (a-1#32)) c d p n sl k b),cS M (cq (fY X (a-1#32)) c d p n sl k b),cS M (a-1#32),cS M a,mW p c n sl b,f (aS (a-1#32)+0) false,decide (aS (a-1#32)+0<X.n),cS M (a-1#32),((m==1)==false),((n==0#32)==false),((m==1)==false),((n==0#32)==false),((n==0#32)==false),((m==1)==false),((m==2)==true),((m==1)==false),((m==2)==true),((m==2)==true),((m==1)==false),((m==1)==false),((m==1)==false),((sl==0#32)==false),((b==0#32)==true),((b==0#32)==true),((b==0#32)==true),(decide (b.toNat<d.toNat)==true)]:=by show _=_;kernel_rfl
def adw(h:U 64→U 64→U 64)(f:cx)(X ad e z:U 64)(M:Nat)(m:Int)(mem tm c d p n sl k b a:BitVec 32)(g:Value):jc eO 11 ⟨f,X,ad,e,z,M,m,mem,tm,c,d,p,n,sl,k,b,a,g⟩ (b8 11) (eO ⟨f,fo f X (aS a) (aS (a-1#32)) (aS (cq (fY X (a-1#32)) c d p n sl k b)),ad,e,z,M,m,mem,tm,c,d,p,n,sl,k,b+1#32,a+1#32,g⟩) (bZ (fL h) aU 44 0) (bt 17 1409) .normal [lZ f X a (a-1#32) (cq (fY X (a-1#32)) c d p n sl k b),cS M (cq (fY X (a-1#32)) c d p n sl k b),cS M (a-1#32),cS M a,mW p c n sl b,f (aS (a-1#32)+0) false,decide (aS (a-1#32)+0<X.n),cS M (a-1#32),((m==1)==false),((n==0#32)==false),((m==1)==false),((n==0#32)==false),((n==0#32)==false),((m==1)==false),((m==2)==true),((m==1)==false),((m==2)==true),((m==2)==true),((m==1)==false),((m==1)==false),((m==1)==false),((b==0#32)==false),((b==0#32)==false),((b==0#32)==false),(decide (b.toNat<d.toNat)==true)]:=by show _=_;kernel_rfl
def adx(h:U 64→U 64→U 64)(f:cx)(X ad e z:U 64)(M:Nat)(m:Int)(mem tm c d p n sl k b a:BitVec 32)(g:Value):jc eO 11 ⟨f,X,ad,e,z,M,m,mem,tm,c,d,p,n,sl,k,b,a,g⟩ (b8 11) (eO ⟨f,fo f X (aS a) (aS (a-1#32)) (aS (cq (fY X (a-1#32)) c d p n sl k b)),ad,e,z,M,m,mem,tm,c,d,p,n,sl,k,b+1#32,a+1#32,g⟩) (bZ (fL h) aU 44 0) (bt 19 92943) .normal [lZ f X a (a-1#32) (cq (fY X (a-1#32)) c d p n sl k b),cS M (cq (fY X (a-1#32)) c d p n sl k b),cS M (a-1#32),cS M a,mW p c n sl b,f (aS (a-1#32)+0) false,decide (aS (a-1#32)+0<X.n),cS M (a-1#32),(decide (sl.toNat<(2#32).toNat)==false),((m==1)==false),((n==0#32)==true),((m==1)==false),((n==0#32)==true),((n==0#32)==true),((m==1)==false),((m==2)==true),((m==1)==false),((m==2)==true),((m==2)==true),((m==1)==false),((m==1)==false),((m==1)==false),((sl==0#32)==false),((b==0#32)==true),((b==0#32)==true),((b==0#32)==true),(decide (b.toNat<d.toNat)==true)]:=by show _=_;kernel_rfl
def ady(h:U 64→U 64→U 64)(f:cx)(X ad e z:U 64)(M:Nat)(m:Int)(mem tm c d p n sl k b a:BitVec 32)(g:Value):jc eO 11 ⟨f,X,ad,e,z,M,m,mem,tm,c,d,p,n,sl,k,b,a,g⟩ (b8 11) (eO ⟨f,fo f X (aS a) (aS (a-1#32)) (aS (cq (fY X (a-1#32)) c d p n sl k b)),ad,e,z,M,m,mem,tm,c,d,p,n,sl,k,b+1#32,a+1#32,g⟩) (bZ (fL h) aU 44 0) (bt 18 46465) .normal [lZ f X a (a-1#32) (cq (fY X (a-1#32)) c d p n sl k b),cS M (cq (fY X (a-1#32)) c d p n sl k b),cS M (a-1#32),cS M a,mW p c n sl b,f (aS (a-1#32)+0) false,decide (aS (a-1#32)+0<X.n),cS M (a-1#32),(decide (sl.toNat<(2#32).toNat)==false),((m==1)==false),((n==0#32)==true),((m==1)==false),((n==0#32)==true),((n==0#32)==true),((m==1)==false),((m==2)==true),((m==1)==false),((m==2)==true),((m==2)==true),((m==1)==false),((m==1)==false),((m==1)==false),((b==0#32)==false),((b==0#32)==false),((b==0#32)==false),(decide (b.toNat<d.toNat)==true)]:=by show _=_;kernel_rfl
def adz(h:U 64→U 64→U 64)(f:cx)(X ad c z:U 64)(M:Nat)(m:Int)(mem tm d a p n sl k b e:BitVec 32)(g:Value):jc eO 11 ⟨f,X,ad,c,z,M,m,mem,tm,d,a,p,n,sl,k,b,e,g⟩ none (eO ⟨f,X,ad,c,z,M,m,mem,tm,d,a,p,n,sl,k,b,e,g⟩) (bZ (fL h) aU 44 0) [false] (.exit 0) [(decide (b.toNat<a.toNat)==false)]:=by show _=_;kernel_rfl
def vT(X a b:U 64)(i:Int):U 64:=b.set (0+i.toNat*1) (X.l.getD (0+i.toNat*1) 0#64^^^a.l.getD (0+i.toNat*1) 0#64)
def Rw(X b a:U 64)(i:Int):(vT X b a i).n=a.n:=rfl
structure x6 where
 (X Y W R:U 64)(i:Int)
def adA(d:x6):aJ×List ah:=
 match d with
 |⟨X,a,b,c,i⟩=>(⟨[.aa,.aa,.P 0,.P 1,.P 2,.P 3,.aa,.aa,.aa,.aa,.aa,.aa,.aa,.aa],[⟨14,.au i⟩]⟩,[⟨.bw X,.own⟩,⟨.bw a,.own⟩,⟨.bw b,.own⟩,⟨.bw c,.own⟩])
def x7(d:x6):x6:=
 match d with
 |⟨X,a,b,c,i⟩=>⟨X,a,b,vT X a c i,i+1⟩
def Kn(a:aJ)(b:List ah):Option x6:=
 match a with
 |⟨[.atom .aa,.atom .aa,.ref (.ptr 0 (.c 0)),.ref (.ptr 1 (.c 0)),.ref (.ptr 2 (.c 0)),.ref (.ptr 3 (.c 0)),.atom .aa,.atom .aa,.atom .aa,.atom .aa,.atom .aa,.atom .aa,.atom .aa,.atom .aa],[⟨14,.num (.int .i64 (.s i))⟩]⟩=>
  match b with
  |[⟨.bw X,.own⟩,⟨.bw d,.own⟩,⟨.bw e,.own⟩,⟨.bw f,.own⟩]=>some ⟨X,d,e,f,i⟩|_=>none
 |_=>none
def nQ:eN x6 where
 d0:=⟨0,0,0,0,0⟩
 read:=Kn
 az:=adA
 next:=x7
 rem:=fun⟨_,_,_,_,i⟩=>(128-i).toNat
 aT:=fun⟨X,a,_,b,i⟩=>decide (0≤i∧i≤128∧X.n=128∧a.n=128∧b.n=128)
 out:=.exit 0
def adB(X a c b:U 64)(i:Int):nQ.cE ⟨X,a,c,b,i⟩ (b8 4) (nQ.az (x7 ⟨X,a,c,b,i⟩)) (bZ ck aU 29 0) [true] .normal [cQ (i+1),decide ((0+(i.toNat*1))<b.n),(decide (0≤i)&&decide (i<(128:Int))),decide ((0+(i.toNat*1))<a.n),(decide (0≤i)&&decide (i<(128:Int))),decide ((0+(i.toNat*1))<X.n),(decide (0≤i)&&decide (i<(128:Int))),(decide (i<128)==true)]:=by show _=_;kernel_rfl
def adC(X a b c:U 64)(i:Int):nQ.cE ⟨X,a,b,c,i⟩ none (nQ.fin ⟨X,a,b,c,i⟩) (bZ ck aU 29 0) [false] nQ.out [(decide (i<128)==false)]:=by show _=_;kernel_rfl
def adD:nQ.Rd:=by
 intro a b d h;change Kn a b=some d at h;unfold Kn at h;repeat' split at h
 all_goals cases h
 rfl
def adE:dg Tryz.prog bB (an 29) (bS Tryz.prog 29) (bh Tryz.prog 29 0) (bZ ck aU 29 0):=iz fK (cL _) 29 0 JU (by rw[show(cI Tryz.prog 29).length=6 by kernel_rfl];omega)
def adF:eF Tryz.prog bB (an 29) (bS Tryz.prog 29) (bh Tryz.prog 29 0) nQ.T.told:=by
 refine nQ.jT adE (by intro k f;have f:k∈([]:List ah):=f;cases f) (by intro h;cases h) adD ?_ ?_
 ·rintro⟨X,a,c,b,i⟩ j d e;have d:=bg d;have e:(128-i).toNat=j+1:=e;have l:nQ.next ⟨X,a,c,b,i⟩=x7 ⟨X,a,c,b,i⟩:=rfl;rw[l];refine⟨⟨[true],(b8 4),_,adB X a c b i,?_⟩,?_,?_,(show(nQ.az (x7 ⟨X,a,c,b,i⟩)).2.length=4 by kernel_rfl).trans (show(nQ.az ⟨X,a,c,b,i⟩).2.length=4 by kernel_rfl).symm⟩
  ·repeat'(refine aA ?_ ?_)
   all_goals first|exact aX|rfl|(simp only[cz]<;>omega)
  ·have g:nQ.aT (x7 ⟨X,a,c,b,i⟩)=decide (0≤(i+1:Int)∧(i+1:Int)≤128∧X.n=128∧a.n=128∧(vT X a b i:U 64).n=128):=by kernel_rfl
   refine g.trans (bu ?_);have m:=Rw X a b i;obtain⟨o,h1,h2,h3,h4⟩:=d;exact⟨by omega,by omega,h2,h3,m.trans h4⟩
  ·have g:nQ.rem (x7 ⟨X,a,c,b,i⟩)=((128-(i+1:Int)).toNat):=by kernel_rfl
   refine g.trans ?_;omega
 ·rintro⟨X,a,c,b,i⟩ d e;have d:=bg d;have e:(128-i).toNat=0:=e;refine⟨[false],none,_,adC X a c b i,?_⟩
  repeat'(refine aA ?_ ?_)
  all_goals first|exact aX|rfl|(simp only[cz]<;>omega)
def Ko:cP:=nQ.T.told
def adG:Told 29 0 Ko:=adF.run
structure x8 where
 (W R Z:U 64)(i:Int)
def adH(d:x8):aJ×List ah:=
 match d with
 |⟨a,b,Z,i⟩=>(⟨[.aa,.aa,.aa,.aa,.P 2,.P 3,.aa,.P 4,.aa,.aa,.aa,.aa,.aa,.aa],[⟨65,.au i⟩]⟩,[cp,cp,⟨.bw a,.own⟩,⟨.bw b,.own⟩,⟨.bw Z,.own⟩,cp])
def nR(d:x8):x8:=
 match d with
 |⟨b,a,Z,i⟩=>⟨b,a,vT Z a Z i,i+1⟩
def Kp(a:aJ)(b:List ah):Option x8:=
 match a with
 |⟨[.atom .aa,.atom .aa,.atom .aa,.atom .aa,.ref (.ptr 2 (.c 0)),.ref (.ptr 3 (.c 0)),.atom .aa,.ref (.ptr 4 (.c 0)),.atom .aa,.atom .aa,.atom .aa,.atom .aa,.atom .aa,.atom .aa],[⟨65,.num (.int .i64 (.s i))⟩]⟩=>
  match b with
  |[⟨.gen [],.bn⟩,⟨.gen [],.bn⟩,⟨.bw d,.own⟩,⟨.bw e,.own⟩,⟨.bw Z,.own⟩,⟨.gen [],.bn⟩]=>some ⟨d,e,Z,i⟩|_=>none
 |_=>none
def l6:eN x8 where
 d0:=⟨0,0,0,0⟩
 read:=Kp
 az:=adH
 next:=nR
 rem:=fun⟨_,_,_,i⟩=>(128-i).toNat
 aT:=fun⟨_,a,Z,i⟩=>decide (0≤i∧i≤128∧a.n=128∧Z.n=128)
 out:=.exit 10
def adI(b a Z:U 64)(i:Int):l6.cE ⟨b,a,Z,i⟩ (b8 6) (l6.az (nR ⟨b,a,Z,i⟩)) (bZ ck aU 29 5) [true] .normal [cQ (i+1),decide ((0+(i.toNat*1))<Z.n),(decide (0≤i)&&decide (i<(128:Int))),decide ((0+(i.toNat*1))<a.n),(decide (0≤i)&&decide (i<(128:Int))),decide ((0+(i.toNat*1))<Z.n),(decide (0≤i)&&decide (i<(128:Int))),(decide (i<128)==true)]:=by show _=_;kernel_rfl
def adJ(a b Z:U 64)(i:Int):l6.cE ⟨a,b,Z,i⟩ none (l6.fin ⟨a,b,Z,i⟩) (bZ ck aU 29 5) [false] l6.out [(decide (i<128)==false)]:=by show _=_;kernel_rfl
def adK:l6.Rd:=by
 intro a b d h;change Kp a b=some d at h;unfold Kp at h;repeat' split at h
 all_goals cases h
 rfl
def adL:dg Tryz.prog bB (an 29) (bS Tryz.prog 29) (bh Tryz.prog 29 5) (bZ ck aU 29 5):=iz fK (cL _) 29 5 JU (by rw[show(cI Tryz.prog 29).length=6 by kernel_rfl];omega)
def adM:eF Tryz.prog bB (an 29) (bS Tryz.prog 29) (bh Tryz.prog 29 5) l6.T.told:=by
 refine l6.jT adL (by intro k e;have e:k∈([]:List ah):=e;cases e) (by intro h;cases h) adK ?_ ?_
 ·rintro⟨b,a,Z,i⟩ g c d;have c:=bg c;have d:(128-i).toNat=g+1:=d;have j:l6.next ⟨b,a,Z,i⟩=nR ⟨b,a,Z,i⟩:=rfl;rw[j];refine⟨⟨[true],(b8 6),_,adI b a Z i,?_⟩,?_,?_,(show(l6.az (nR ⟨b,a,Z,i⟩)).2.length=6 by kernel_rfl).trans (show(l6.az ⟨b,a,Z,i⟩).2.length=6 by kernel_rfl).symm⟩
  ·repeat'(refine aA ?_ ?_)
   all_goals first|exact aX|rfl|(simp only[cz]<;>omega)
  ·have f:l6.aT (nR ⟨b,a,Z,i⟩)=decide (0≤(i+1:Int)∧(i+1:Int)≤128∧a.n=128∧(vT Z a Z i:U 64).n=128):=by kernel_rfl
   refine f.trans (bu ?_);have l:=Rw Z a Z i;obtain⟨m,h1,h2,h3⟩:=c;exact⟨by omega,by omega,h2,l.trans h3⟩
  ·have f:l6.rem (nR ⟨b,a,Z,i⟩)=((128-(i+1:Int)).toNat):=by kernel_rfl
   refine f.trans ?_;omega
 ·rintro⟨b,a,Z,i⟩ c d;have c:=bg c;have d:(128-i).toNat=0:=d;refine⟨[false],none,_,adJ b a Z i,?_⟩
  repeat'(refine aA ?_ ?_)
  all_goals first|exact aX|rfl|(simp only[cz]<;>omega)
def Kq:cP:=l6.T.told
def adN:Told 29 5 Kq:=adM.run
def nS:FuncId→Nat→Option cP|29,3=>some Ko|29,28=>some Kq|_,_=>none
def adO:(cI Tryz.prog 29).length=6:=by kernel_rfl
def adP(spec:FuncId→Option ay.Spec):c6 (dh spec nS) bB:=by
 refine c6.of fun f=>?_;by_cases d:f=29
 ·subst d;refine .inr ⟨by kernel_rfl,fun i hi c a=>?_⟩;have hi:i<(cI Tryz.prog 29).length:=hi;rw[adO]at hi;have e:i=0∨i=1∨i=2∨i=3∨i=4∨i=5:=by omega
  rcases e with rfl|rfl|rfl|rfl|rfl|rfl
  ·have b:(bY (bh Tryz.prog 29 0)).bind (nS 29)=some Ko:=by kernel_rfl
   obtain rfl:=dV (b.symm.trans a);exact adG
  ·have b:(bY (bh Tryz.prog 29 1)).bind (nS 29)=none:=by kernel_rfl
   have a:(bY (bh Tryz.prog 29 1)).bind (nS 29)=some c:=a;rw[b]at a;cases a
  ·have b:(bY (bh Tryz.prog 29 2)).bind (nS 29)=none:=by kernel_rfl
   have a:(bY (bh Tryz.prog 29 2)).bind (nS 29)=some c:=a;rw[b]at a;cases a
  ·have b:(bY (bh Tryz.prog 29 3)).bind (nS 29)=none:=by kernel_rfl
   have a:(bY (bh Tryz.prog 29 3)).bind (nS 29)=some c:=a;rw[b]at a;cases a
  ·have b:(bY (bh Tryz.prog 29 4)).bind (nS 29)=none:=by kernel_rfl
   have a:(bY (bh Tryz.prog 29 4)).bind (nS 29)=some c:=a;rw[b]at a;cases a
  ·have b:(bY (bh Tryz.prog 29 5)).bind (nS 29)=some Kq:=by kernel_rfl
   obtain rfl:=dV (b.symm.trans a);exact adN
 ·refine .inl fun r=>?_
  show nS f r=none;unfold nS;split
  ·exact absurd rfl d
  ·exact absurd rfl d
  ·rfl
abbrev o6:=U 64→Int→Int→Int→Int→Int→Int→Int→Int→Int→Int→Int→Int→Int→Int→Int→Int→U 64
def gP:o6:=fun X a b c d e f g h i j k l m n o p=>Ki kw X a b c d e f g h i j k l m n o p
def Rx(a:o6):bV Kk:={tQ with out:=fun⟨X,i0,i1,i2,i3,i4,i5,i6,i7,i8,i9,i10,i11,i12,i13,i14,b⟩=>[⟨.bw (a X i0 i1 i2 i3 i4 i5 i6 i7 i8 i9 i10 i11 i12 i13 i14 b),.own⟩]}
def adQ:Rx gP=tQ:=rfl
def Kr(a:o6):FuncId→Option ay.Spec|39=>some (Rx a).spec|_=>none
def adR:∀f a,Kr gP f=some a→br f a:=by
 intro f a h;unfold Kr at h;split at h
 ·cases h;rw[adQ];exact ac4
 ·cases h
def nT(a:o6)(k:Int)(Z:U 64):U 64:=a Z (16*k+0) (16*k+1) (16*k+2) (16*k+3) (16*k+4) (16*k+5) (16*k+6) (16*k+7) (16*k+8) (16*k+9) (16*k+10) (16*k+11) (16*k+12) (16*k+13) (16*k+14) (16*k+15)
def o7(a:o6)(k:Int)(Z:U 64):U 64:=a Z (0+2*k+0) (0+2*k+1) (16+2*k+0) (16+2*k+1) (32+2*k+0) (32+2*k+1) (48+2*k+0) (48+2*k+1) (64+2*k+0) (64+2*k+1) (80+2*k+0) (80+2*k+1) (96+2*k+0) (96+2*k+1) (112+2*k+0) (112+2*k+1)
def As(a:o6)(Z:U 64):U 64:=o7 a 7 (o7 a 6 (o7 a 5 (o7 a 4 (o7 a 3 (o7 a 2 (o7 a 1 (o7 a 0 (nT a 7 (nT a 6 (nT a 5 (nT a 4 (nT a 3 (nT a 2 (nT a 1 (nT a 0 Z)))))))))))))))
def je:U 64:=U.of (List.replicate 128 0#64)
def mX(a b:U 64):x6:=iter x7 (128-(0:Int)).toNat ⟨di a,di b,je,je,0⟩
def Ks(a:o6)(d:x6):x8:=iter nR (128-(0:Int)).toNat ⟨d.W,d.R,As a (di d.R),0⟩
def tR(a:o6)(b c:U 64):U 64:=(Ks a (mX b c)).Z
def Ry(k:Int)(Z:U 64):Bool:=tQ.aT ⟨Z,16*k+0,16*k+1,16*k+2,16*k+3,16*k+4,16*k+5,16*k+6,16*k+7,16*k+8,16*k+9,16*k+10,16*k+11,16*k+12,16*k+13,16*k+14,16*k+15⟩
def Rz(k:Int)(Z:U 64):Bool:=tQ.aT ⟨Z,0+2*k+0,0+2*k+1,16+2*k+0,16+2*k+1,32+2*k+0,32+2*k+1,48+2*k+0,48+2*k+1,64+2*k+0,64+2*k+1,80+2*k+0,80+2*k+1,96+2*k+0,96+2*k+1,112+2*k+0,112+2*k+1⟩
def Kt(a:o6):List Int→U 64→List Bool|[],_=>[]|k::r,Z=>Kt a r (nT a k Z)++[Ry k Z]
def Ku(a:o6):List Int→U 64→List Bool|[],_=>[]|k::r,Z=>Ku a r (o7 a k Z)++[Rz k Z]
def Kv(a:o6):List Int→U 64→U 64|[],Z=>Z|k::r,Z=>Kv a r (nT a k Z)
def adS(c:o6)(a b:U 64):List Bool:=true::true::decide (0+128≤(Ks c (mX a b)).Z.n)::l6.aT ⟨(mX a b).W,(mX a b).R,As c (di (mX a b).R),0⟩::(Ku c [0,1,2,3,4,5,6,7] (Kv c [0,1,2,3,4,5,6,7] (di (mX a b).R))++(Kt c [0,1,2,3,4,5,6,7] (di (mX a b).R)++[true,true]))
structure F6 where
 (x y:U 64)
def Kw(a:List af)(b:List ah):Option F6:=
 match a with
 |[.agg c,.agg d]=>
  match b with
  |[]=>
   (match jS 128 c with
   |some e=>
   (match jS 128 d with
   |some f=>some ⟨e,f⟩|none=>none)
   |none=>none)
  |_=>none
 |_=>none
def tS:bV F6 where
 d0:=⟨0,0⟩
 read:=Kw
 args:=fun⟨a,b⟩=>[.agg (dU a 128),.agg (dU b 128)]
 heap:=fun⟨_,_⟩=>[]
 val:=fun⟨a,b⟩=>(.agg (dU (tR gP a b) 128))
 aT:=fun⟨a,_⟩=>decide (a.n=a.n)
def adT(a:List af)(b:List ah)(d:F6)(h:tS.read a b=some d):a=tS.args d∧b=tS.heap d:=by
 replace h:Kw a b=some d:=h;unfold Kw at h;split at h
 case h_2=>cases h
 split at h
 case h_2=>cases h
 split at h
 case h_2=>cases h
 rename_i c;obtain⟨rfl,_⟩:=kU c;split at h
 case h_2=>cases h
 rename_i e;obtain⟨rfl,_⟩:=kU e;cases h;exact⟨rfl,rfl⟩
def adU(a:o6)(b c:U 64):nK 0 (some []) [] (.agg (dU (tR a b c) 128)) (b9 (Kr a) nS 29 (tS.args ⟨b,c⟩) ⟨[],bQ,[],[]⟩) (adS a b c):=by show _=_;kernel_rfl
end
end Go.Proofs.YtcminalaicidiaaGreatDoor
end

/- A part of the proof of FnArgon2Derive. No condition. -/
import Derived.Test.YtcminalaicidiaaGreatDoorZA
import Derived.Conc.CompanyWords
import Derived.Below
import Derived.Laws.CopyRow
import Derived.Laws.Append
import Derived.Laws.MakeOwn
import Derived.ChangeKeysEq
set_option maxRecDepth 100000
set_option maxHeartbeats 8000000
set_option linter.all false
def Wt:=@Array.foldl_toList
def gV:=@Array.getD_eq_getD_getElem?
def Er:=@Array.getElem?_eq_none
def H8:=@Array.getElem?_toList
def Eo:=@Array.length_toList
def Oi:=@Array.mapM_eq_mapM_toList
def Ia:=@Array.mem_def
def Wy:=@Array.mem_toList_iff
def WA:=@Array.size_push
def Wl:=@Array.toList_setIfInBounds
def y9:=@Bool.and_eq_false_iff
def dH:=@Bool.and_eq_true
def ni:=@Bool.not_eq_true'
def Wx:=@Bool.not_true
def Bt:=@Bool.or_eq_false_iff
def pM:=@Bool.or_eq_true
def aoh:=@Go.Conc.listed_nil
def rN:=@Int.le_refl
def aok:=@Int.toNat_le_toNat
def H6:=@Int.toNat_zero
def xb:=@List.all_eq_true
def za:=@List.append_assoc
def uJ:=@List.append_nil
def Ok:=@List.cons.injEq
def H9:=@List.drop_drop
def Wk:=@List.drop_left'
def aoj:=@List.drop_of_length_le
def H7:=@List.drop_zero
def Bm:=@List.eq_nil_of_length_eq_zero
def uH:=@List.ext_getElem?
def Wj:=@List.flatten_cons
def dZ:=@List.getD_eq_getElem?_getD
def iE:=@List.getElem?_append_left
def ie:=@List.getElem?_append_right
def bW:=@List.getElem?_eq_getElem
def di:=@List.getElem?_eq_none
def dY:=@List.getElem?_map
def Of:=@List.getElem?_of_mem
def Ep:=@List.getElem?_range
def mz:=@List.getElem?_replicate
def Bn:=@List.getElem?_set
def pL:=@List.getElem?_set_self
def lP:=@List.getElem?_take
def Og:=@List.getElem_map
def Wp:=@List.getElem_mem
def lQ:=@List.length_map
def nh:=@List.length_replicate
def qx:=@List.length_take
def Wu:=@List.mapM_cons
def Bq:=@List.map_append
def Wr:=@List.map_drop
def aol:=@List.map_replicate
def HZ:=@List.map_set
def Wq:=@List.map_take
def Ww:=@List.range_eq_range'
def aoi:=@List.replicate_succ
def Wm:=@List.take_add_one
def Em:=@List.take_append_drop
def Ws:=@List.take_left
def Wo:=@List.take_length
def qw:=@List.take_of_length_le
def iF:=@Nat.add_assoc
def Bo:=@Nat.add_comm
def Bp:=@Nat.add_mul
def uI:=@Nat.add_sub_cancel_left
def Oh:=@Nat.ble_eq_true_of_le
def rO:=@Nat.eq_of_beq_eq_true
def En:=@Nat.le_mul_of_pos_right
def Wv:=@Nat.le_of_ble_eq_true
def Br:=@Nat.min_le_left
def Bs:=@Nat.min_le_right
def Wn:=@Nat.mod_eq_sub_mod
def gU:=@Nat.mul_comm
def fQ:=@Nat.mul_le_mul_right
def w8:=@Nat.mul_one
def jR:=@Nat.succ_mul
def w9:=@Nat.zero_mul
def Oj:=@Option.map_map
def Wz:=@Option.mem_def
def iZ:=@congrArg
def w7:=@decide_eq_false_iff_not
noncomputable section
namespace Go.aA
section
open Conc
open Go.ConcR (DC0)
section
variable{P:Program}{p:dj}{Next Q Anch R S T:Goroutine→World→Prop}{n vs r:Nat}{g:Goroutine}{w:World}
def zQ.mono(d:∀g w,Next g w→Q g w)(h:zQ P p Next g w):zQ P p Q g w:=let⟨a,g',b,c⟩:=h;⟨a,g',b,fun e=>d _ _ (c e)⟩
def vj.mono(d:∀g w,Next g w→Q g w)(h:vj P p Next g w):vj P p Q g w:=let⟨a,g',b,c⟩:=h;⟨a,g',b,c.mono fun _ _=>zQ.mono d⟩
def zR.mono(a:∀g w,Next g w→Q g w)(h:zR P p Next g w):zR P p Q g w:=⟨h.1,fun d=>let⟨g',b,c⟩:=h.2 d;⟨g',b,c.mono fun _ _=>vj.mono a⟩⟩
def xB.mono(a:∀g w,Next g w→Q g w)(h:xB P p Next g w):xB P p Q g w:=⟨h.1,h.2.1,h.2.2.1,fun d=>let⟨g',b,c⟩:=h.2.2.2 d;⟨g',b,c.mono fun _ _=>zR.mono a⟩⟩
def zS.mono(f:∀g w,Next g w→Q g w)(cC:∀g w,Anch g w→R g w)(h:zS P p Next Anch vs g w):zS P p Q R vs g w:=
 ⟨h.1,fun v d e=>⟨fun a=>let⟨g',b,c⟩:=(h.2 v d e).1 a;⟨g',b,c.mono fun _ _=>xB.mono f⟩,fun a=>let⟨g',b,c⟩:=(h.2 v d e).2 a;⟨g',b,c.mono cC⟩⟩⟩
def qD.mono(e:∀g w,Next g w→Q g w)(cC:∀g w,Anch g w→R g w)(h:qD P p Next Anch g w):qD P p Q R g w:=
 ⟨h.1,fun v f i=>let⟨g',b,c,d⟩:=h.2 v f i;⟨g',b,fun a=>(c a).mono fun _ _=>vj.mono e,fun a=>(d a).mono fun _ _=>zS.mono e cC⟩⟩
def xC.mono(cC:∀g w,Anch g w→R g w)(h:xC P p Anch g w):xC P p R g w:=let⟨a,g',b,c⟩:=h;⟨a,g',b,c.mono cC⟩
def Pe(h:Goes P true (bS p) DC0 (fun g w=>g.status=.running∧∀a,bS p w a→(stepG P true g a).goes fun g' w' b=>zP p a w' b∧fG P p S g' w') n g w):fG P p S g w:=
 Way.trans bS.refl bS.aH (iu h) fun g w ⟨d,h⟩=>.one d fun a e=>by
  have:=h a e;cases c:stepG P true g a with
  |go g' w' b=>rw[c]at this;exact⟨g',w',b,rfl,this⟩|_=>rw[c]at this;exact this.elim
def oP.ahead(h:fG P p S g w)(k:∀g w,S g w→oP P p Anch r g w):oP P p Anch r g w:=by
 cases r with
 |zero=>exact Way.trans bS.refl bS.aH h k|succ r=>exact Way.trans bS.refl bS.aH h k
def Pf{a:Addr}(h:p.mL a.block)(cQ:a.block<w.heap.size):zP p w w #[⟨.cell a,false,false⟩]:=by
 refine⟨⟨w.drawn,rfl⟩,fun d c=>?_⟩;rw[aof]at c;subst c;refine⟨⟨fun e b=>?_,by simp[MemAct.ofEvent],by rw[y8];exact cQ⟩,by simp,by simp⟩;rw[y8]at b;simp only[MemAct.touch?,aB]at b;subst b;exact .inr ⟨⟨a,rfl,.inl h⟩,by simp,rfl⟩
end
end
end Go.aA
namespace Go.Proofs.YtcminalaicidiaaGreatDoor
section
open Go Go.aA Conc Conc.Lib RowKit
open Go.ConcR (KK WgAt stA smA rd wr mk DC0 wgBlock)
open Go.ConcR.Gen Go.ConcN.Gen
open Go.ConcN (WgLive)
def lA:Obj:=.cells #[.int .u64 0,.int .u32 0] 112
def Cn(T:Array Value)(a:Nat)(cs:List Frame):Goroutine:=G (jc (T.setIfInBounds 15 (cA a)) (.inRegion oR []::.code (dP kg)::kn)) cs
def Yd(T:Array Value)(cs:List Frame)(w:World):stepG Tryz.prog true (zX T cs) w=.go (Cn T w.heap.size cs) (w.alloc lA) #[]:=by
 have h:(stepG Tryz.prog true (zX T cs) w).goes fun g w' a=>g=Cn T w.heap.size cs∧w'=w.alloc lA∧a=#[]:=by
  simp only[zX,jc,oR,kg,lU,nA,lT,pU,Tryz.f33,ic,dP,j8,j9,ny,opsOf];refine goes_oper_k rfl rfl (by k_ne) (fun d c=>?_)
  go_simp
  refine c _ _ ⟨rfl,rfl,aoh (by simp[go_sem])⟩
 cases b:stepG Tryz.prog true (zX T cs) w with
 |go g' w' a=>rw[b]at h;obtain⟨rfl,rfl,rfl⟩:=h;rfl
 |_=>rw[b]at h;exact h.elim
structure r7(n0:Nat)(n s:Int)(Wg:Nat)(k:Int)(T:Array Value):Prop extends TS n0 n T where
 t14:T[14]? =some (.int .u32 s)
 t15:T[15]? =some (cA Wg)
 t16:T[16]? =some (.int .u32 k)
def call44(n0:Nat)(n s k:Int)(a:Nat):Deferred:={target:=.fn (.func 44) (mR n0),args:=#[.int .u32 n,.int .u32 s,.int .u32 k,cA a]}
def vq:List Item:=.code (dP (j9 (j8 (dP ki))))::.inBlock 5::.code (dP (dP ki))::.inLoop ki::.inBlock 4::.code (dP (dP kg))::kn
def zZ(T:Array Value)(a:Nat)(cs:List Frame):Goroutine:=G ((base 49).at ⟨#[.pointer (some ⟨a,0,none⟩),.int .i64 1]++Array.replicate 115 undef,[]⟩ [.code (body_add link)]) (jc T (.inRegion nB [0]::vq)::cs)
def xI(T:Array Value):Frame:=jc T (.inRegion mQ [0]::kn)
def z0(T:Array Value)(a:Nat)(cs:List Frame):Goroutine:=G ((base 50).at ⟨#[.pointer (some ⟨a,0,none⟩)]++Array.replicate 83 undef,[]⟩ [.code (body_wait link)]) (xI T::cs)
def jd(p:dj)(n0:Nat)(dD:Int)(w:World):Prop:=p.mL (n0+3)∧w.heap[n0+3]? =some (.cells #[.int .u32 dD] 43)
section
variable{p:dj}{n0:Nat}{n s k dD:Int}{cs:List Frame}{w P:World}
def jd.rely(h:jd p n0 dD w)(r:bS p w P):jd p n0 dD P:=⟨h.1,(r.eF _ (dW.1 h.2).1 h.1).trans h.2⟩
def dx(h:jd p n0 dD w∧p.live w)(r:bS p w P):jd p n0 dD P∧p.live P:=⟨h.1.rely r,r.live h.2⟩
def Pg(h:jd p n0 dD w):w.cell? ⟨n0+3,0,none⟩=some (.int .u32 dD):=by simp[World.cell?,h.2]
def Ye{T:Array Value}(t:TS n0 n T)(b:T[14]? =some (.int .u32 s))(a:jd p n0 dD w∧p.live w):
 fG Tryz.prog p (fun g w=>(∃c,g=vp c cs∧r7 n0 n s p.Wg 0 c)∧jd p n0 dD w∧p.live w) (Cn T p.Wg cs) w:=by
 obtain⟨d,e,h,i,j,l,m,o,q,r⟩:=t;obtain⟨f,rfl⟩:=r5 T d;simp only[rL,ta,rM,aB]at e h i j l m o q r b;clear d;refine iu (n:=40) ?_;simp only[jc,Cn,pV,kn,vq,kg,lU,nA,ki,lT,pU,Tryz.f33,zZ,z0,xI,body_add,body_wait,addFn,waitFn,Array.replicate,List.replicate,Bl,ng,jP,ic,dP,j8,j9,ny,opsOf,cA,mR,oR,nB,qG,mQ]at *;simp only[e,h,i,j,l,m,o,q,r,b]
 walk_nrm
 u_c stepG_region_end dx a
 u_c stepG_seq dx a
 u_c stepG_seq dx a
 u_reg dx a
 u_op dx a
 u_c stepG_region_end dx a
 u_c stepG_block dx a
 u_c stepG_loop dx a
 exact Goes.stop fun P u=>⟨⟨_,rfl,⟨⟨rfl,rfl,rfl,rfl,rfl,rfl,rfl,rfl,rfl,rfl⟩,rfl,rfl,rfl⟩⟩,dx a u⟩
def Yf{T:Array Value}(C:r7 n0 n s p.Wg k T)(F:k<dD)(b:jd p n0 dD w∧p.live w):
 fG Tryz.prog p (fun g w=>(∃e,g=zZ e p.Wg cs∧r7 n0 n s p.Wg k e)∧jd p n0 dD w∧p.live w) (vp T cs) w:=by
 obtain⟨⟨h,i,j,l,m,o,q,r,t,u⟩,v,x,y⟩:=C;obtain⟨f,rfl⟩:=r5 T h;simp only[rL,ta,rM,aB]at i j l m o q r t u v x y;clear h;have H:=zW;refine Pe (n:=9) ?_;simp only[jc,vp,pV,kn,vq,kg,lU,nA,ki,lT,pU,Tryz.f33,zZ,z0,xI,body_add,body_wait,addFn,waitFn,Array.replicate,List.replicate,Bl,ng,jP,ic,dP,j8,j9,ny,opsOf,cA,mR,oR,nB,qG,mQ]at *;simp only[i,j,l,m,o,q,r,t,u,v,x,y]
 u_c stepG_seq dx b
 u_c stepG_seq dx b
 u_reg dx b
 u_op dx b
 refine Goes.stop fun P c=>⟨rfl,fun I z=>?_⟩;replace b:=dx (dx b c) z;clear c z;refine goes_oper_k rfl rfl (by k_ne) (fun D d=>?_);have A:=Pg b.1;go_simp;refine d _ _ ⟨⟨⟨_,rfl⟩,fun J E=>by have B:=mem_listed E;clear d;simp[go_sem,A]at B;subst B;exact(Pf (a:=⟨n0+3,0,none⟩) b.1.1 (dW.1 b.1.2).1).2 _ (by simp)⟩,iu (n:=40) ?_⟩;clear d D A
 u_op dx b
 u_c stepG_region_end dx b
 u_cnd true dx b
 u_c stepG_skip dx b
 u_c stepG_seq dx b
 u_c stepG_block dx b
 u_c stepG_seq dx b
 u_reg dx b
 u_call H.f_add (nm_add link) addFn dx b
 exact Goes.stop fun P c=>⟨⟨_,rfl,⟨⟨rfl,rfl,rfl,rfl,rfl,rfl,rfl,rfl,rfl,rfl⟩,rfl,rfl,rfl⟩⟩,dx b c⟩
def Yg{T:Array Value}(C:r7 n0 n s p.Wg k T)(F:¬k<dD)(b:jd p n0 dD w∧p.live w):
 fG Tryz.prog p (fun g w=>(∃e,g=z0 e p.Wg cs∧r7 n0 n s p.Wg k e)∧jd p n0 dD w∧p.live w) (vp T cs) w:=by
 obtain⟨⟨h,i,j,l,m,o,q,r,t,u⟩,v,x,y⟩:=C;obtain⟨f,rfl⟩:=r5 T h;simp only[rL,ta,rM,aB]at i j l m o q r t u v x y;clear h;have H:=zW;refine Pe (n:=9) ?_;simp only[jc,vp,pV,kn,vq,kg,lU,nA,ki,lT,pU,Tryz.f33,zZ,z0,xI,body_add,body_wait,addFn,waitFn,Array.replicate,List.replicate,Bl,ng,jP,ic,dP,j8,j9,ny,opsOf,cA,mR,oR,nB,qG,mQ]at *;simp only[i,j,l,m,o,q,r,t,u,v,x,y]
 u_c stepG_seq dx b
 u_c stepG_seq dx b
 u_reg dx b
 u_op dx b
 refine Goes.stop fun P c=>⟨rfl,fun I z=>?_⟩;replace b:=dx (dx b c) z;clear c z;refine goes_oper_k rfl rfl (by k_ne) (fun D d=>?_);have A:=Pg b.1;go_simp;refine d _ _ ⟨⟨⟨_,rfl⟩,fun J E=>by have B:=mem_listed E;clear d;simp[go_sem,A]at B;subst B;exact(Pf (a:=⟨n0+3,0,none⟩) b.1.1 (dW.1 b.1.2).1).2 _ (by simp)⟩,iu (n:=40) ?_⟩;clear d D A
 u_op dx b
 u_c stepG_region_end dx b
 u_cnd false dx b
 u_exit dx b
 u_reg dx b
 u_call H.f_wait (nm_wait link) waitFn dx b
 exact Goes.stop fun P c=>⟨⟨_,rfl,⟨⟨rfl,rfl,rfl,rfl,rfl,rfl,rfl,rfl,rfl,rfl⟩,rfl,rfl,rfl⟩⟩,dx b c⟩
def bf(T:Array Value)(cs:List Frame):Goroutine:=G (jc T (.inRegion qG []::.inBlock 5::.code (dP (dP ki))::.inLoop ki::.inBlock 4::.code (dP (dP kg))::kn)) cs
def Yh{T:Array Value}(y:r7 n0 n s p.Wg k T)(a:jd p n0 dD w∧p.live w):
 fG Tryz.prog p (fun g w=>(g.status=.running∧∃b,stepG Tryz.prog true g w=.spawn (bf b cs) (born Tryz.prog (call44 n0 n s k p.Wg)) w #[]∧r7 n0 n s p.Wg k b)∧jd p n0 dD w∧p.live w) (G ((base 33).at ((⟨T,[]⟩:Act).put ((nB[0]?).bind (·.dst)) (.tuple #[])) (.inRegion nB []::vq)) cs) w:=by
 obtain⟨⟨e,h,i,j,l,m,o,q,r,t⟩,u,v,x⟩:=y;obtain⟨f,rfl⟩:=r5 T e;simp only[rL,ta,rM,aB]at h i j l m o q r t u v x;clear e;refine iu (n:=40) ?_;simp only[jc,vp,pV,kn,vq,kg,lU,nA,ki,lT,pU,Tryz.f33,zZ,z0,xI,body_add,body_wait,addFn,waitFn,Array.replicate,List.replicate,Bl,ng,jP,ic,dP,j8,j9,ny,opsOf,cA,mR,oR,nB,qG,mQ]at *;simp only[h,i,j,l,m,o,q,r,t,u,v,x]
 walk_nrm
 u_c stepG_region_end dx a
 u_reg dx a
 iterate 4 (u_op dx a)
 refine Goes.stop fun P z=>⟨⟨rfl,_,(stepG_spawn (d:=call44 n0 n s k p.Wg) (w':=P) (f:=.func 44) (c:=mR n0) rfl rfl (by decide) (by simp[go_sem,call44,Deferred.ofValue,cA,mR]) rfl).trans (iZ (fun A=>GStep.spawn _ _ _ A) (aoh (by simp[go_sem,Deferred.ofValue]))),⟨⟨rfl,rfl,rfl,rfl,rfl,rfl,rfl,rfl,rfl,rfl⟩,rfl,rfl,rfl⟩⟩,dx a z⟩
def Yi{T:Array Value}(v:r7 n0 n s p.Wg k T)(y:IntKind.u32.wrap (k+1)=k+1)(a:jd p n0 dD w∧p.live w):
 fG Tryz.prog p (fun g w=>(∃b,g=vp b cs∧r7 n0 n s p.Wg (k+1) b)∧jd p n0 dD w∧p.live w) (bf T cs) w:=by
 obtain⟨⟨c,d,e,h,i,j,l,m,o,q⟩,r,t,u⟩:=v;obtain⟨f,rfl⟩:=r5 T c;simp only[rL,ta,rM,aB]at d e h i j l m o q r t u;clear c;refine iu (n:=40) ?_;simp only[jc,bf,pV,kn,vq,kg,lU,nA,ki,lT,pU,Tryz.f33,zZ,z0,xI,body_add,body_wait,addFn,waitFn,Array.replicate,List.replicate,Bl,ng,jP,ic,dP,j8,j9,ny,opsOf,cA,mR,oR,nB,qG,mQ]at *;simp only[d,e,h,i,j,l,m,o,q,r,t,u]
 u_c stepG_region_end dx a
 u_c stepG_inBlock dx a
 u_reg dx a
 iterate 3 (u_op dx a)
 u_c stepG_region_end dx a
 u_c stepG_inLoop dx a
 exact Goes.stop fun P x=>⟨⟨_,rfl,⟨⟨rfl,rfl,rfl,rfl,rfl,rfl,rfl,rfl,rfl,rfl⟩,rfl,rfl,rfl⟩⟩,dx a x⟩
end
end
end Go.Proofs.YtcminalaicidiaaGreatDoor
section
namespace Go.aA
open Conc
section
variable{P:Program}{S:Machine}{Q:Loc→Prop}{U d:Nat}{V:Array Goroutine}{a:Goroutine}{w:World}{sl:Option (Nat×Nat)}{T:Trace}{q:Nat→Nat}{F:FuncId}
def Yj(w:World)(d:Nat):AtRel (w.at d) w:=⟨w.drawn,rfl⟩
def iM.to{Stop:lu}(k:∀g w,Stop g w→g.status=.running)(l:∀g w j,AtRel w j→Stop g w→Stop g j)(h:iM P S Q U d V a w sl T q)(m:Way P true AtRel (zT Q U) Stop a w):
 ∃b c w' e f i,iM P S Q U d b c w' e f i∧b.size=V.size∧w.heap.size≤w'.heap.size∧Stop c w':=by
 obtain⟨b,c,w',e,f,i,o,s,h1,h2,h3,_,r⟩:=h.walk k m;exact⟨b,c,w',e,f,i,h1,h2,h3,l _ _ _ (Yj w' o) r⟩
def ir.lone(h:ir P S F Q V a w sl T q)(b:w.heap.size≤U):iM P S Q U 0 V a w sl T q:=⟨h.run,h.h0,h.nw,LT.IR h.vm b⟩
def LT.vm{B:Nat}(h:LT Q U B 0 T):Past Q B T:=⟨h.clean,h.known,h.over,h.deaf,h.seen⟩
def iM.Co(h:iM P S Q U 0 V a w sl T q)(b:∀l,Q l→∃a,l=.cell a∧a.block<w.heap.size∧mP P S F a.block):ir P S F Q V a w sl T q:=⟨h.run,h.h0,h.nw,h.lt.vm,b⟩
end
end Go.aA
namespace Go.Proofs.YtcminalaicidiaaGreatDoor
open Go Go.aA Conc Conc.Lib RowKit
open Go.ConcR (KK WgAt stA smA DC0)
open Go.ConcR.Gen
section
variable{p:dj}{n0:Nat}{n R dD:Int}{cs:List Frame}
def Fl(p:dj)(n0:Nat)(n R dD:Int)(cs:List Frame)(g:Goroutine)(w:World):Prop:=∃T,(TS n0 n T∧T[14]? =some (.int .u32 R))∧Ck link p (jd p n0 dD) (xI T) cs g w
def Ph(p:dj)(n0:Nat)(n R dD:Int)(cs:List Frame)(g:Goroutine)(w:World):Prop:=∃T,(TS n0 n T∧T[14]? =some (.int .u32 R))∧Pc Tryz.prog (jd p n0 dD) (Cm T cs) g w
def Goes.xz{P:Program}{D:World→World→Array Event→Prop}{f i:Goroutine→World→Prop}(e:∀g w,f g w→i g w):∀{m:Nat} {g:Goroutine} {w:World},Goes P true AtRel D f m g w→Goes P true AtRel D i m g w
 |0,g,w,h=>fun b c=>e _ _ (h b c)|m+1,g,w,h=>by
  rcases h with h|⟨k,h⟩
  ·exact .inl fun b c=>e _ _ (h b c)
  ·refine .inr ⟨k,fun b c=>?_⟩;have:=h b c;cases j:stepG P true g b with
   |go g' w' l=>rw[j]at this;exact⟨this.1,Goes.xz e this.2⟩|_=>rw[j]at this;exact this.elim
def Pj{P:Program}{D:World→World→Array Event→Prop}{i:Goroutine→World→Prop}(j:∀w w' k,D w w' k→AtRel w w'):∀{m:Nat} {g:Goroutine} {w e:World},AtRel e w→Goes P true AtRel D i m g w→Goes P true AtRel D (fun g w=>i g w∧AtRel e w) m g w
 |0,g,w,e,f,h=>fun c b=>⟨h c b,mO _ _ _ f b⟩|m+1,g,w,e,f,h=>by
  rcases h with h|⟨o,h⟩
  ·exact .inl fun c b=>⟨h c b,mO _ _ _ f b⟩
  ·refine .inr ⟨o,fun c b=>?_⟩;have:=h c b;cases l:stepG P true g c with
   |go g' w' k=>rw[l]at this;exact⟨this.1,Pj j (mO _ _ _ (mO _ _ _ f b) (j _ _ _ this.1)) this.2⟩|_=>rw[l]at this;exact this.elim
def Yk{P:Program}{F:World→Prop}{r a:Goroutine}{m:Nat}{w:World}(h:Goes P true AtRel DC0 (fun g w=>g=r∧F w) m a w):Goes P true AtRel DC0 (fun g w'=>g=r∧AtRel w w') m a w:=by
 have:=Pj (fun w w' b (h:DC0 w w' b)=>by rw[h.1];exact AtRel.refl w) (AtRel.refl w) h;exact Goes.xz (fun g w' h=>⟨h.1.1,h.2⟩) this
def I0:∀w w',bS p w w'→jd p n0 dD w→jd p n0 dD w':=fun _ _ r h=>h.rely r
def Yl(c:eL p)(g:Goroutine)(w:World)(h:Fl p n0 n R dD cs g w):fG Tryz.prog p (qD Tryz.prog p (Ph p n0 n R dD cs) (Fl p n0 n R dD cs)) g w:=by
 obtain⟨T,b,h⟩:=h;exact Way.mono (fun g w=>qD.mono (fun g w h=>⟨T,b,h⟩) fun g w h=>⟨T,b,h⟩) (X0 (b₀:=base 33) (a₀:=⟨T,[]⟩) (ops₀:=mQ) (i₀:=0) (rest₀:=[]) (k₀:=kn) zW c I0 g w h)
def Ym(l:eL p)(B:(p.N:Int)=dD)(o:∀k:Nat,k<p.N→∀w,dw p k p.cF w→aA.Works Tryz.prog p k (born Tryz.prog (call44 n0 n R k p.Wg)) w):
 ∀r,r≤p.N→∀T w,r7 n0 n R p.Wg ((p.N-r:Nat):Int) T→jd p n0 dD w∧p.live w→oP Tryz.prog p (Fl p n0 n R dD cs) r (vp T cs) w:=by
 intro r;have C:=l.E7
 induction r with
 |zero=>
  intro _ T w f i;refine Way.trans bS.refl bS.aH (Yg (dD:=dD) f (by omega) i) fun g w ⟨⟨c,b,e⟩,j⟩=>?_;subst b;exact Way.mono (fun g w=>xC.mono fun g w h=>⟨c,⟨e.toTS,e.t14⟩,h⟩) (waitStartN (b₀:=base 33) (a₀:=⟨c,[]⟩) (ops₀:=mQ) (i₀:=0) (rest₀:=[]) (k₀:=kn) zW I0 w j)
 |succ r s=>
  intro D T w f i;refine Way.trans bS.refl bS.aH (Yf (dD:=dD) f (by omega) i) fun g w ⟨⟨c,b,e⟩,j⟩=>?_;subst b;refine XW (b₀:=base 33) (a₀:=⟨c,[]⟩) (ops₀:=nB) (i₀:=0) (rest₀:=[]) (k₀:=vq) zW l I0 (fun w h1 h2=>?_) w j;refine Way.mono (fun g w ⟨⟨t,E,u,v⟩,x⟩=>⟨t,_,_,u,rfl,fun y=>o _ (by omega) w y,?_⟩) (Yh e ⟨h1,h2⟩);refine oP.ahead (Yi v (by rw[IntKind.wrap_u32];omega) x) fun g w ⟨⟨z,b,m⟩,A⟩=>?_;subst b;have b:(((p.N-(r+1):Nat):Int)+1)=((p.N-r:Nat):Int):=by omega
  rw[b]at m;exact s (by omega) z w m A
end
end Go.Proofs.YtcminalaicidiaaGreatDoor
end
namespace Go.Proofs.YtcminalaicidiaaGreatDoor
section
open Go Go.aA Conc Conc.Lib RowKit
open Go.ConcR (KK WgAt stA smA DC0)
open Go.ConcR.Gen
def Cp(cn:Nat)(cY:Nat→Nat→Prop)(Y:Nat→Nat→Value)(k:Nat)(w:World):Prop:=∃vs t bu,w.heap[cn]? =some (.cells vs t bu)∧∀a,cY k a→vs[a]? =some (Y k a)
structure I1(p:dj)(Sh:Go.Loc→Prop)(cu:Machine)(N cn:Nat)(cY:Nat→Nat→Prop)(iL:Nat→Prop)(kx:Nat→Nat)(Y:Nat→Nat→Value)(w1:World):Prop where
 ok:eL p
 ty:p.ty=link.tWg
 N:p.N=N
 bR:p.bR=cn
 rZ:p.cY=cY
 xD:p.iL=iL
 kx:p.kx=kx
 pay:p.kQ=Cp cn cY Y
 eF:∀c,c<w1.heap.size→c≠cn→(∀x:Addr,x.block=c→¬Sh (.cell x))→p.mL c
 ext:Ext w1 [lA] p.cF
 wg:p.Wg=w1.heap.size
def Yn{p:dj}{cn:Nat}{cY:Nat→Nat→Prop}{Y:Nat→Nat→Value}(e:p.bR=cn)(f:p.cY=cY)(k:Nat)(w w':World)(h:dw p k w w')(g:Cp cn cY Y k w):Cp cn cY Y k w':=by
 obtain⟨vs,t,bu,h1,h2⟩:=g;have a:=h.bR;rw[e,f]at a;rcases a with i|⟨us,j,o,r,b,l,u,m⟩
 ·exact⟨vs,t,bu,i.trans h1,h2⟩
 ·rw[h1]at b;cases b;exact⟨j,t,bu,l,fun c d=>(m c (.inl d)).trans (h2 c d)⟩
section
variable{cu:Machine}{Sh:Go.Loc→Prop}{Q:Array Goroutine}{w1:World}{sl:Option (Nat×Nat)}{T:Trace}{q:Nat→Nat}{n0 N cn:Nat}{n s:Int}{cs:List Frame}{cY:Nat→Nat→Prop}{iL:Nat→Prop}{kx:Nat→Nat}{Y:Nat→Nat→Value}{P:Array Value}
def I2{w:World}(h:Ext w1 [lA] w):WgAt link.tWg w1.heap.size w 0 0:=by
 unfold WgAt Go.ConcR.wgBlock;exact h.at 0 rfl
structure z3(cn N:Nat)(cY:Nat→Nat→Prop)(Y:Nat→Nat→Value)(w1 w:World):Prop where
 os:w.os=w1.os
 tape:w.tape=w1.tape
 output:w.output=w1.output
 size:w1.heap.size≤w.heap.size
 old:∀c,c<w1.heap.size→c≠cn→w.heap[c]? =w1.heap[c]?
 bR:kR cn (fun o=>∀k,k<N→¬cY k o) w1 w
 pay:∀k,k<N→Cp cn cY Y k w
def z3.at{w w':World}(h:z3 cn N cY Y w1 w)(r:AtRel w w'):z3 cn N cY Y w1 w':=by
 obtain⟨d,rfl⟩:=r;exact⟨h.os,h.tape,h.output,h.size,h.old,h.bR,h.pay⟩
def Yo(R:0<N)(S:N<2147483648)(U:∀k z r,cY k r→cY z r→k=z)(V:∀k r,cY k r→¬iL r)(W:∀k,cY k (kx k)∨iL (kx k))
 (A:ir Tryz.prog cu 33 Sh Q (r6 P cs) w1 sl T q) (X:TS n0 n P) (Z:P[14]? =some (.int .u32 s)) (aa:s<4) (H:w1.heap[n0+3]? =some (.cells #[.int .u32 N] 43)) (ab:∀e:Addr,e.block=n0+3→¬Sh (.cell e)) (ad:n0+3≠cn)
 (ae:cn<w1.heap.size) (af:∀e:Addr,e.block=cn→¬Sh (.cell e))
 (ag:∀p:dj,I1 p Sh cu N cn cY iL kx Y w1→∀k:Nat,k<N→∀w,dw p k p.cF w→aA.Works Tryz.prog p k (born Tryz.prog (call44 n0 n s k p.Wg)) w):
 ∃I ah t w' ai aj ak,ir Tryz.prog cu 33 I ah (Cm t cs) w' ai aj ak∧(TS n0 n t∧t[14]? =some (.int .u32 s))∧z3 cn N cY Y w1 w'∧∀e:Addr,e.block<w1.heap.size→I (.cell e)→Sh (.cell e):=by
 obtain⟨B,aP,f,aQ,aR,aS,i,aT,h1,_,aU,al,⟨C,rfl,am,an⟩,v⟩:=(A.lone (aX _)).walk (fun g w h=>by obtain⟨⟨_,rfl,_⟩,_⟩:=h;rfl) (Yb X Z aa w1);have J:f.heap.size=w1.heap.size:=by obtain⟨d,j⟩:=v;have:=iZ (fun w:World=>w.heap.size) j;exact this
 have ao:=h1.Co (F:=33) (fun l D=>let⟨a,j,e,E⟩:=A.oQ l D;⟨a,j,by omega,E⟩);have m:Ext w1 [lA] ((f.at i).alloc lA):=((Ext.refl w1).rely v).alloc lA;have aV:((f.at i).alloc lA).heap.size=w1.heap.size+1:=m.size;have ap:∀e:Addr,Sh (.cell e)→e.block<w1.heap.size:=fun e K=>by obtain⟨a,j,h,_⟩:=A.oQ _ K;cases j;exact h
 let p:dj:={ty:=link.tWg,Wg:=w1.heap.size,Sh:=Sh,aY:=B.size,N:=N,bR:=cn,ety:=0,n:=0,mN:=fun k c=>w1.heap.size<c∧zV Tryz.prog cu (B.size+k) c,mL:=fun c=>c<w1.heap.size∧c≠cn∧∀e:Addr,e.block=c→¬Sh (.cell e),cY:=cY,iL:=iL,kx:=kx,kQ:=Cp cn cY Y,cF:=(f.at i).alloc lA};have aq:0<B.size:=(dW.1 h1.h0).1;have x:eL p:=⟨fun k z b h ar=>by have:=XO h.2 ar.2;omega,fun k b h=>by show((f.at i).alloc lA).heap.size≤b;have:=h.1;omega,fun k a h e j u=>by have:=ap e u;have:=h.1;omega,
  fun b h=>⟨by show b<((f.at i).alloc lA).heap.size;have:=h.1;omega,by have:=h.1;show b≠w1.heap.size;omega,h.2.1,h.2.2⟩,by show w1.heap.size<((f.at i).alloc lA).heap.size;omega,
  ⟨by show cn<((f.at i).alloc lA).heap.size;omega,by show cn≠w1.heap.size;omega,af⟩,U,V,W,aq,S,fun k w w' h au=>Yn rfl rfl k w w' h au⟩
 have av:I1 p Sh cu N cn cY iL kx Y w1:=⟨x,rfl,rfl,rfl,rfl,rfl,rfl,rfl,fun c h1 h2 h3=>⟨h1,h2,h3⟩,m,rfl⟩;have aw:stepG Tryz.prog true (zX C cs) (f.at i)=.go (Cn C p.Wg cs) p.cF #[]:=by
  have:=Yd C cs (f.at i)
  rwa[show(f.at i).heap.size=w1.heap.size from J]at this
 have L:n0+3<w1.heap.size:=(dW.1 H).1;have ax:jd p n0 N p.cF∧p.live p.cF:=⟨⟨⟨L,ad,ab⟩,(m.old L).trans H⟩,⟨0,0,I2 m⟩⟩;obtain⟨aW,aZ,y,a0,a1,a2,h3,⟨M,ay,az,cQ⟩,aB,o⟩:=ao.crowd (p:=p) (Next:=Ph p n0 n s N cs) (Anch:=Fl p n0 n s N cs) rfl al aw x rfl J.symm (by show f.heap.size≤((f.at i).alloc lA).heap.size;omega) (I2 m) R
  (oP.ahead (Ye (dD:=N) am an ax) fun g w ⟨⟨t,j,aC⟩,aD⟩=>by
   subst j;exact Ym x rfl (fun k O w aE=>ag p av k O w aE) N (aX _) t w (by rw[show((p.N-N:Nat):Int)=0 by show((N-N:Nat):Int)=0;simp];exact aC) aD)
  (fun k c O h1 h2=>⟨by have:((f.at i).alloc lA).heap.size≤c:=h1;omega,h2⟩) (fun g w h=>by obtain⟨_,_,h⟩:=h;exact XY h) (fun g w h=>Yl x g w h)
 have aF:z3 cn N cY Y w1 y:=⟨o.os.trans m.os,o.tape.trans m.tape,o.output.trans m.output,by have:((f.at i).alloc lA).heap.size≤y.heap.size:=o.size;omega,
  fun c aG aH=>(o.jT c (by show c<((f.at i).alloc lA).heap.size;omega) aH (by show c≠w1.heap.size;omega)).trans (m.old aG),kR.trans (.inl (m.old ae)) o.bR,aB⟩
 obtain⟨aI,a3,aJ,aK,aL,aM,h4,_,a4,rfl,aN⟩:=(h3.lone (aX _)).to (Stop:=fun g w=>g=Cm M cs∧AtRel y w) (fun g w h=>by rw[h.1];rfl) (fun g w a5 v h=>⟨h.1,mO _ _ _ h.2 v⟩)
  (vn (Sh:=fun l=>p.Sh l∨pQ p.Wg l) (Wg:=y.heap.size) (n:=az) (Yk cQ))
 refine⟨_,aI,M,aJ,aK,aL,aM,h4.Co (fun l D=>let⟨a,j,e,E⟩:=h3.oQ l D;⟨a,j,by omega,E⟩),ay,aF.at aN,fun e K u=>?_⟩;rcases u with u|⟨b,j,aO⟩
 ·exact u
 ·cases j;have:e.block=w1.heap.size:=aO;omega
end
end
end Go.Proofs.YtcminalaicidiaaGreatDoor
namespace Go.aA
section
variable{v:Value}{xs:List af}{vs:List Value}{x:af}{c:Nat}{w:World}{o:N}{w':World}{b i:Nat}{l:N}{g:Nat}{P Q:World}{H:List ah}
structure Loc where
 c:Nat
 base:Nat
 room:Nat
abbrev aE:=Nat→Option Loc
def aE.le(β d:aE):Prop:=∀b a,β b=some a→d b=some a
def aE.le_refl(β:aE):aE.le β β:=fun _ _ h=>h
def aE.le_trans{a b c:aE}(h:aE.le a b)(k:aE.le b c):aE.le a c:=fun x d e=>k x d (h x d e)
def at'(c o:Nat):Addr:=⟨c,o,none⟩
class aR where
 row:Nat→Nat×Nat
def gK [aR](k o:Nat):Addr:=if k%2=0 then at' (k/2) o else at' (aR.row (k/2)).1 ((aR.row (k/2)).2+o)
def g7 [aR](k:Nat):Nat:=if k%2=0 then k/2 else(aR.row (k/2)).1
def r8 [aR](k:Nat):∃b,∀o,gK k o=at' (g7 k) (b+o):=by
 unfold gK g7;split
 ·exact⟨0,fun o=>by rw[cM]⟩
 ·exact⟨_,fun o=>rfl⟩
def I3 [aR](g o:Nat):gK (2*g) o=at' g o:=by
 unfold gK;rw[av (by omega),show 2*g/2=g by omega]
def Yp [aR](g:Nat):g7 (2*g)=g:=by
 unfold g7;rw[av (by omega),show 2*g/2=g by omega]
variable [aR][aF]
inductive aC(β:aE):af→Value→Prop
 |aa (v:Value):aC β (.atom .aa) v|bool (b:B):aC β (.atom (.bool b)) (.bool b.v)|str (s:ByteArray):aC β (.atom (.str s)) (.string s)|mA:aC β (.atom .mA) (.pointer none)|cI:aC β (.atom .cI) (.slice none 0 0)|fC:aC β (.atom .fC) .nilIface|mB:aC β (.atom .mB) .nilFunc|exact(v:Value):aC β (.atom (.exact v)) v|num (n:bh):aC β (.num n) n.val|ptr (b:Nat) (o:N) (L:Loc) (h:β b=some L):aC β (.ref (.ptr b o)) (.pointer (some (at' L.c (L.base+o.v))))|eE (g:Nat) (o:N):aC β (.ref (.eE g o)) (.pointer (some (gK g o.v)))|gs (g:Nat) (o l:N) (c5:Nat) (h:l.v≤c5):aC β (.ref (.gs g o l)) (.slice (some (gK g o.v)) l.v c5)|sm (b:Nat) (l:N) (s:Nat) (a:Option Addr) (c5:Nat) (h1:l.v≤c5) (h3:c5=0∨∃L,β b=some L∧a=some (at' L.c L.base)∧c5*s≤L.room):aC β (.ref (.sm b l s)) (.slice a l.v c5)
 |sl (b:Nat) (o l:N) (cap:Option N) (a:Option Addr) (c5:Nat) (h1:l.v≤c5) (h2:∀C,cap=some C→C.v=c5)
  (h3:c5=0∨∃L,β b=some L∧a=some (at' L.c (L.base+o.v))∧o.v+c5≤L.room):aC β (.ref (.sl b o l cap)) (.slice a l.v c5)
 |agg (xs:List af) (vs:List Value) (OE:xs.length=vs.length) (h:∀(i:Nat) x v,xs[i]? =some x→vs[i]? =some v→aC β x v):aC β (.agg xs) (.agg ⟨vs⟩)|bx (xs:List af) (vs:List Value) (OE:xs.length=vs.length) (h:∀(i:Nat) x v,xs[i]? =some x→vs[i]? =some v→aC β x v):aC β (.obj .bx xs) (.tuple ⟨vs⟩)|ig (t:Nat) (x:af) (v:Value) (h:aC β x v):aC β (.obj (.ig t) [x]) (.iface t v)
 |fn (f:Fn) (n:Nat) (xs:List af) (first captured:List Value) (xy:first.length=n) (OE:xs.length=(first++captured).length)
  (h:∀(i:Nat) x v,xs[i]? =some x→(first++captured)[i]? =some v→aC β x v):aC β (.obj (.fn f n) xs) (.func f ⟨first⟩ ⟨captured⟩)
def aJ(β:aE)(xs:List af)(vs:List Value):Prop:=xs.length=vs.length∧∀(i:Nat) x v,xs[i]? =some x→vs[i]? =some v→aC β x v
def aJ.nil(β:aE):aJ β [] []:=⟨rfl,fun i x v h=>by simp at h⟩
def aJ.cons{β:aE}(h:aC β x v)(k:aJ β xs vs):aJ β (x::xs) (v::vs):=by
 refine⟨by simp[k.1],fun i e u a d=>?_⟩;cases i with
 |zero=>simp at a d;subst a d;exact h|succ i=>simp at a d;exact k.2 i e u a d
def aJ.head{β:aE}(h:aJ β (x::xs) (v::vs)):aC β x v:=h.2 0 x v rfl rfl
def aJ.tail{β:aE}(h:aJ β (x::xs) (v::vs)):aJ β xs vs:=
 ⟨by simpa using h.1,fun i a u d e=>h.2 (i+1) a u (by simpa using d) (by simpa using e)⟩
def aJ.cons_inv{β:aE}(h:aJ β (x::xs) vs):∃v a,vs=v::a∧aC β x v∧aJ β xs a:=by
 cases vs with
 |nil=>simp[aJ]at h|cons v a=>exact⟨v,a,rfl,h.head,h.tail⟩
def aJ.r9{β:aE}(h:aJ β [] vs):vs=[]:=by
 have:=h.1;simp at this;exact Bm this.symm
def aJ.append{β:aE}{a:List af}{us:List Value}(h:aJ β xs vs)(k:aJ β a us):aJ β (xs++a) (vs++us):=by
 induction xs generalizing vs with
 |nil=>rw[h.r9];exact k|cons x xs d=>
  obtain⟨v,e,rfl,h1,h2⟩:=h.cons_inv;exact aJ.cons h1 (d h2)
def aJ.get{β:aE}(h:aJ β xs vs)(a:xs[i]? =some x):∃v,vs[i]? =some v∧aC β x v:=by
 have hi:i<xs.length:=by
  rcases cv i xs.length with h|h
  ·exact h
  ·simp[di h]at a
 have d:i<vs.length:=h.1▸hi;exact⟨vs[i],by simp[d],h.2 i x _ a (by simp[d])⟩
def aJ.drop{β:aE}(h:aJ β xs vs)(n:Nat):aJ β (xs.drop n) (vs.drop n):=
 ⟨by simp[h.1],fun i x v a d=>h.2 (n+i) x v (by simpa using a) (by simpa using d)⟩
def aJ.take{β:aE}(h:aJ β xs vs)(n:Nat):aJ β (xs.take n) (vs.take n):=by
 refine⟨by simp[h.1],fun i x v a d=>?_⟩;simp only[lP]at a d;split at a<;>simp_all;exact h.2 i x v a d
def aJ.set{β:aE}(h:aJ β xs vs)(j:aC β x v)(n:Nat):aJ β (xs.set n x) (vs.set n v):=by
 refine⟨by simp[h.1],fun i f u a d=>?_⟩;simp only[Bn]at a d;have:=h.1;split at a
 ·rename_i e;simp only[e,gT]at d;split at a<;>simp_all
 ·rename_i e;simp only[e,ei]at d;exact h.2 i f u a d
def aJ.replicate{β:aE}(h:aJ β xs vs)(n:Nat):aJ β (List.replicate n xs).flatten (List.replicate n vs).flatten:=by
 induction n with
 |zero=>exact aJ.nil β|succ n a=>simp only[aoi,Wj];exact h.append a
def aC.mono{β r:aE}(m:aE.le β r)(h:aC β x v):aC r x v:=by
 induction h with
 |aa v=>exact .aa v|bool b=>exact .bool b|str p=>exact .str p|mA=>exact .mA|cI=>exact .cI|fC=>exact .fC|mB=>exact .mB|exact v=>exact .exact v|num n=>exact .num n|ptr b o d h=>exact .ptr b o d (m b d h)|eE g o=>exact .eE g o|gs g o l j h=>exact .gs g o l j h|sm b l p a j h1 h3=>
  refine .sm b l p a j h1 ?_;rcases h3 with h|⟨d,h,q⟩
  ·exact .inl h
  ·exact .inr ⟨d,m b d h,q⟩
 |sl b o l s a j h1 h2 h3=>
  refine .sl b o l s a j h1 h2 ?_;rcases h3 with h|⟨d,h,q⟩
  ·exact .inl h
  ·exact .inr ⟨d,m b d h,q⟩
 |agg xs vs k h e=>exact .agg xs vs k e|bx xs vs k h e=>exact .bx xs vs k e|ig t x v h e=>exact .ig t x v e|fn f n xs first captured u k h e=>exact .fn f n xs first captured u k e
def aJ.mono{β a:aE}(d:aE.le β a)(h:aJ β xs vs):aJ a xs vs:=⟨h.1,fun i x v e f=>(h.2 i x v e f).mono d⟩
def aC.oS{β:aE}(h:b5 x v):aC β x v:=by cases h<;>first|exact .num _|exact .bool _
def aC.z4{β:aE}(h:aJ β xs vs):aC β (.agg xs) (.agg ⟨vs⟩):=.agg xs vs h.1 h.2
def aC.I4{β:aE}(h:aJ β xs vs):aC β (.obj .bx xs) (.tuple ⟨vs⟩):=.bx xs vs h.1 h.2
def aC.xJ{β:aE}(h:aC β (.agg xs) v):∃vs,v=.agg ⟨vs⟩∧aJ β xs vs:=by
 cases h with|agg _ vs a h=>exact⟨vs,rfl,a,h⟩
def aC.Yq{β:aE}(h:aC β (.obj .bx xs) v):∃vs,v=.tuple ⟨vs⟩∧aJ β xs vs:=by
 cases h with|bx _ vs a h=>exact⟨vs,rfl,a,h⟩
def aC.num_inv{β:aE}{n:bh}(h:aC β (.num n) v):v=n.val:=by cases h;rfl
def aC.tC{β:aE}{b:B}(h:aC β (.atom (.bool b)) v):v=.bool b.v:=by cases h;rfl
def aC.sd{β:aE}(h:aC β (.ref (.ptr b o)) v):∃a,β b=some a∧v=.pointer (some (at' a.c (a.base+o.v))):=by
 cases h with|ptr _ _ a h=>exact⟨a,h,rfl⟩
def aC.Pk{β:aE}(h:aC β (.ref (.gs g o l)) v):∃a,v=.slice (some (gK g o.v)) l.v a∧l.v≤a:=by cases h;exact⟨_,rfl,by assumption⟩
def aC.Cq{β:aE}{f:Nat}(h:aC β (.ref (.sm b l f)) v):
 ∃a d,v=.slice a l.v d∧l.v≤d∧(d=0∨∃e,β b=some e∧a=some (at' e.c e.base)∧d*f≤e.room):=by
 cases h with|sm _ _ _ a d h1 h3=>exact⟨a,d,rfl,h1,h3⟩
def aC.Cr{β:aE}(h:aC β (.ref (.eE g o)) v):v=.pointer (some (gK g o.v)):=by cases h;rfl
def aC.pW{β:aE}{f:Option N}(h:aC β (.ref (.sl b o l f)) v):
 ∃a d,v=.slice a l.v d∧l.v≤d∧(∀C,f=some C→C.v=d)∧(d=0∨∃e,β b=some e∧a=some (at' e.c (e.base+o.v))∧o.v+d≤e.room):=by
 cases h with|sl _ _ _ _ a d h1 h2 h3=>exact⟨a,d,rfl,h1,h2,h3⟩
def I5(β:aE):∀v:Value,aC β (xe v) v:=by
 intro v
 induction v using Value.rec (motive_2:=fun a=>aJ β (xe.BB a.toList) a.toList) (motive_3:=fun l=>aJ β (xe.BB l) l)with
 |bool b=>exact .bool (.c b)|int k n=>exact .num (.int k (.c n))|string e=>exact .str e|pointer a=>cases a<;>first|exact .mA|exact .aa _
 |slice a l c=>
  cases a with
  |some a=>exact .aa _|none=>
   cases l with
   |succ l=>exact .aa _|zero=>
    cases c with
    |succ c=>exact .aa _|zero=>exact .cI
 |nilIface=>exact .fC|nilFunc=>exact .mB|agg a d=>cases a;exact aC.z4 d
 |tuple a d=>cases a;exact aC.I4 d
 |mk l d=>exact d|nil=>exact aJ.nil β|cons x l f h=>exact aJ.cons f h|_=>exact .aa _
def Data.at(d:Data)(i:Nat):Option af:=
 match d with
 |.gen l=>l[i]?|.ag l=>(l.l[i]?).map .bQ|.eY l=>(l.l[i]?).map .aD|.bt l=>(l.l[i]?).map .au|.spot n a x=>((List.replicate n (.atom .aa)).set a x)[i]?|.fc l t=>(l.map af.exact++t)[i]?|.lim f l=>if f i false=true then(l.l[i]?).map .au else none
def Data.list(d:Data):List af:=
 match d with
 |.gen l=>l|.ag l=>l.l.map .bQ|.eY l=>l.l.map .aD|.bt l=>l.l.map .au|.spot n a x=>(List.replicate n (.atom .aa)).set a x|.fc l t=>l.map af.exact++t|.lim _ l=>l.l.map .au
def Data.full(d:Data):Prop:=∀f l,d≠.lim f l
def Data.qH{d:Data}(a:d.full)(i:Nat):d.list[i]? =d.at i:=by cases d<;>first|(simp[Data.list,Data.at];done)|exact absurd rfl (a _ _)
def Data.Yr{d:Data}(h:d.at i=some x):d.list[i]? =some x:=by
 cases d with
 |lim f l=>
  simp only[Data.at]at h;split at h
  ·simpa[Data.list]using h
  ·cases h
 |_=>simpa[Data.list,Data.at]using h
def Data.jB(d:Data):d.list.length=d.len:=by cases d<;>simp[Data.list,Data.len,U.h]
def I6{n d:Nat}{a:af}(h:((List.replicate n (af.atom .aa)).set d x)[i]? =some a):a=.atom .aa∨(i=d∧a=x):=by
 rw[Bn]at h;split at h
 ·rename_i e;split at h
  ·injection h with h;exact .inr ⟨e.symm,h.symm⟩
  ·cases h
 ·rw[mz]at h;split at h
  ·injection h with h;exact .inl h.symm
  ·cases h
def Mode.alive(m:Mode):Prop:=m≠.bn
def je(β:aE)(d:Data)(a:Loc)(w:World):Prop:=
 a.c<w.heap.size∧d.len≤a.room∧∀(i:Nat) x,d.at i=some x→∃v,w.cell? (at' a.c (a.base+i))=some v∧aC β x v∧gm (at' a.c (a.base+i)) false
def I7(bu:Nat×Nat)(n:Nat):Prop:=bu=(0,0)∨bu=(n,n+1)
def fH(d:Data)(c:Nat):Prop:=
 match d with
 |.lim f _=>aF.mine c∧f=aF.lim|_=>oK c
def fH.mine{d:Data}(h:fH d c):aF.mine c:=by cases d<;>exact h.1
def fH.tD{d:Data}(h:fH d c)(a:d.full):oK c:=by cases d<;>first|exact h|exact absurd rfl (a _ _)
def fH.of{d:Data}(h:oK c)(a:d.full):fH d c:=by cases d<;>first|exact h|exact absurd rfl (a _ _)
def lX(l:List af):(Data.gen l).full:=fun _ _ h=>by cases h
def se(β:aE)(d:Data)(a:Loc)(w:World):Prop:=
 a.base=0∧fH d a.c∧∃(vs:List Value) (t:TypeId) (bu:Nat×Nat),w.heap[a.c]? =some (.cells ⟨vs⟩ t bu)∧I7 bu vs.length∧vs.length=a.room∧d.len≤a.room∧aJ β d.list (vs.take d.len)
def g8(β:aE)(k:ah)(a:Loc)(w:World):Prop:=
 match k.mode with
 |.bn=>True|.ro=>je β k.data a w|.own=>se β k.data a w
structure aL(G:Nat→Option (List af))(β:aE)(H:List ah)(w:World):Prop where
 blk:∀(b:Nat) k,H[b]? =some k→k.mode.alive→(∃L,β b=some L∧g8 β k L w)∨(k.data.len=0∧β b=none)
 dO:∀(b b':Nat) k oA L Pm,b≠b'→H[b]? =some k→H[b']? =some oA→k.mode=.own→oA.mode.alive→β b=some L→β b'=some Pm→L.c≠Pm.c
 fW:∀b L,β b=some L→b<H.length
 dB:∀g l,G g=some l→g7 g<w.heap.size∧∀(i:Nat) x,l[i]? =some x→∃v,w.cell? (gK g i)=some v∧aC (fun _=>none) x v∧gm (gK g i) false
 apart:∀(b:Nat) k L,H[b]? =some k→k.mode=.own→β b=some L→∀g l,G g=some l→g7 g≠L.c
def Own(β:aE)(H:List ah)(c:Nat):Prop:=∃(b:Nat) (k:ah) (a:Loc),H[b]? =some k∧k.mode=.own∧β b=some a∧a.c=c
def bL(c:Nat)(w w':World):Prop:=(aF.mine c→w'.heap[c]? =w.heap[c]?)∧∀o,aF.rd c o→w'.cell? (at' c o)=w.cell? (at' c o)
def bL.of(h:w'.heap[c]? =w.heap[c]?):bL c w w':=⟨fun _=>h,fun o _=>by unfold World.cell? at';simp only;rw[h]⟩
def bL.refl(c:Nat)(w:World):bL c w w:=bL.of rfl
def bL.trans(h:bL c w w')(k:bL c w' P):bL c w P:=⟨fun a=>(k.1 a).trans (h.1 a),fun o d=>(k.2 o d).trans (h.2 o d)⟩
def er.Pn(h:er w Q)(a:c<w.heap.size):bL c w Q:=⟨h.mine c a,fun o d=>h.rd c o a d⟩
def bL.cell{o:Nat}(h:bL c w w')(a:gm (at' c o) false)(d:w.cell? (at' c o)=some v):w'.cell? (at' c o)=some v:=by
 rcases a.2 with a|⟨_,a,_⟩
 ·have:=h.1 a.1;unfold World.cell? at' at d⊢;simp only at d⊢;rw[this];exact d
 ·rw[h.2 o a];exact d
structure bM(β:aE)(H:List ah)(w:World)(β':aE)(fI:List ah)(w':World):Prop where
 le:aE.le β β'
 len:H.length≤fI.length
 os:w'.os=w.os
 tape:w'.tape=w.tape
 output:w'.output=w.output
 size:w.heap.size≤w'.heap.size
 kept:∀c,c<w.heap.size→¬Own β H c→bL c w w'
 own:∀c,c<w.heap.size→Own β' fI c→Own β H c
 old:∀b,b<H.length→β' b=β b
def bM.refl(β:aE)(H:List ah)(w:World):bM β H w β H w:=⟨aE.le_refl β,aX _,rfl,rfl,rfl,aX _,fun c _ _=>bL.refl c _,fun _ _ h=>h,fun _ _=>rfl⟩
def bM.trans{β e f:aE}{j m:List ah}(h:bM β H w e j w')(k:bM e j w' f m P):bM β H w f m P where
 le:=aE.le_trans h.le k.le
 len:=gb h.len k.len
 os:=k.os.trans h.os
 tape:=k.tape.trans h.tape
 output:=k.output.trans h.output
 size:=gb h.size k.size
 kept c a n:=(h.kept c a n).trans (k.kept c (dL a h.size) (fun d=>n (h.own c a d)))
 own c a d:=h.own c a (k.own c (dL a h.size) d)
 old b p:=(k.old b (dL p h.len)).trans (h.old b p)
def bM.drew(β:aE)(H:List ah)(w:World):bM β H w β H w.drew:=⟨aE.le_refl β,aX _,rfl,rfl,rfl,aX _,fun _ _ _=>bL.of rfl,fun _ _ h=>h,fun _ _=>rfl⟩
def er.nC(h:er w Q)(β:aE)(H:List ah):bM β H w β H Q:=⟨aE.le_refl β,aX _,h.os,h.tape,h.output,h.size,fun c a _=>h.Pn a,fun _ _ h=>h,fun _ _=>rfl⟩
def aL.drew{G:Nat→Option (List af)}{β:aE}(h:aL G β H w):aL G β H w.drew:=⟨h.blk,h.dO,h.fW,h.dB,h.apart⟩
def cg{a:Type}:∀(n:Nat) (l:List a),aU n l=l[n]?|0,[]=>rfl|n+1,[]=>rfl|0,x::r=>rfl|n+1,x::r=>by simp[aU,cg n r]
def iO{a:Type}(v:a):∀(n:Nat) (l:List a),fe v n l=l.set n v|0,[]=>rfl|n+1,[]=>rfl|0,x::r=>rfl|n+1,x::r=>by simp[fe,iO v n r]
def Fo{d:Type}(vs:List d):∀(n:Nat) (l r:List d),nj vs n l=some r→n+vs.length≤l.length∧r=over l n vs
 |0,l,r,h=>by
  simp only[nj]at h;cases e:Nat.ble vs.length l.length<;>simp[e]at h;have:vs.length≤l.length:=by simpa using e
  exact⟨by omega,by subst h;simp[over]⟩
 |n+1,[],r,h=>by simp[nj]at h|n+1,x::l,r,h=>by
  simp only[nj]at h;cases a:nj vs n l with
  |none=>simp[a]at h|some f=>
   simp[a]at h;obtain⟨h1,h2⟩:=Fo vs n l f a;subst h h2;refine⟨by simp;omega,?_⟩;simp[over,Nat.add_right_comm]
def Cs{d:Type}(n:Nat):∀(o:Nat) (l r:List d),tf n o l=some r→o+n≤l.length∧r=(l.drop o).take n
 |0,l,r,h=>by
  simp only[tf]at h;cases a:Nat.ble n l.length<;>simp[a]at h;have:n≤l.length:=by simpa using a
  exact⟨by omega,by subst h;simp⟩
 |o+1,[],r,h=>by simp[tf]at h|o+1,x::l,r,h=>by
  simp only[tf]at h;obtain⟨h1,h2⟩:=Cs n o l r h;exact⟨by simp;omega,by simpa using h2⟩
end
section
variable [aR][aF]
variable{d:Data}{vs:List Value}{m:uP}{l:List af}{P:Data}{i:Nat}{T V:Type}{f:T→Option V}{r:List V}{v:U 8}{n:Nat}{Q:N}{S R:ai}
section
variable{β:aE}
def I8{b:List (BitVec 8)}(h:cU af.fD l=some b)(e:aJ β l vs):aJ β (b.map .bQ) vs:=by
 induction l generalizing b vs with
 |nil=>simp[cU]at h;subst h;exact e|cons g l k=>
  simp only[cU]at h;cases a:af.fD g with
  |none=>simp[a]at h|some o=>
   cases c:cU af.fD l with
   |none=>simp[a,c]at h|some p=>
    simp[a,c]at h;subst h;obtain⟨v,q,rfl,h1,h2⟩:=e.cons_inv;cases g<;>simp only[af.fD,reduceCtorEq]at a;have j:=h1.num_inv;rw[bh.rX a]at j;subst j;exact aJ.cons (aC.oS (.bQ o)) (k c h2)
def Po{b:List (BitVec 32)}(h:cU af.iq l=some b)(e:aJ β l vs):aJ β (b.map .aD) vs:=by
 induction l generalizing b vs with
 |nil=>simp[cU]at h;subst h;exact e|cons g l k=>
  simp only[cU]at h;cases a:af.iq g with
  |none=>simp[a]at h|some o=>
   cases c:cU af.iq l with
   |none=>simp[a,c]at h|some p=>
    simp[a,c]at h;subst h;obtain⟨v,q,rfl,h1,h2⟩:=e.cons_inv;cases g<;>simp only[af.iq,reduceCtorEq]at a;have j:=h1.num_inv;rw[bh.u9 a]at j;subst j;exact aJ.cons (aC.oS (.aD o)) (k c h2)
def Pp{b:List (BitVec 64)}(h:cU af.fE l=some b)(e:aJ β l vs):aJ β (b.map .au) vs:=by
 induction l generalizing b vs with
 |nil=>simp[cU]at h;subst h;exact e|cons g l k=>
  simp only[cU]at h;cases a:af.fE g with
  |none=>simp[a]at h|some o=>
   cases c:cU af.fE l with
   |none=>simp[a,c]at h|some p=>
    simp[a,c]at h;subst h;obtain⟨v,q,rfl,h1,h2⟩:=e.cons_inv;cases g<;>simp only[af.fE,reduceCtorEq]at a;have j:=h1.num_inv;rw[bh.oN a]at j;subst j;exact aJ.cons (aC.oS (.au o)) (k c h2)
def tE{l:List T}(h:cU f l=some r):r.length=l.length:=by
 induction l generalizing r with
 |nil=>simp[cU]at h;subst h;rfl|cons a l b=>
  simp only[cU]at h;cases h1:f a with
  |none=>simp[h1]at h|some c=>
   cases h2:cU f l with
   |none=>simp[h1,h2]at h|some e=>simp[h1,h2]at h;subst h;simp[b h2]
def Ct{l:U 8}(h:d.j7=some l):l.n=d.len:=by
 cases d<;>simp only[Data.j7,bU,aB,reduceCtorEq]at h
 ·obtain⟨a,b,rfl⟩:=h;exact tE b
 ·subst h;rfl
def Fp{l:U 32}(h:d.oC=some l):l.n=d.len:=by
 cases d<;>simp only[Data.oC,bU,aB,reduceCtorEq]at h
 ·obtain⟨a,b,rfl⟩:=h;exact tE b
 ·subst h;rfl
def Fq{l:U 64}(h:d.oD=some l):l.n=d.len:=by
 cases d<;>simp only[Data.oD,bU,aB,reduceCtorEq]at h
 ·obtain⟨a,b,rfl⟩:=h;exact tE b
 ·subst h;rfl
def Cu{b:U 8}(h:d.j7=some b)(c:aJ β d.list vs):aJ β (b.l.map .bQ) vs:=by
 cases d<;>simp only[Data.j7,bU,aB,reduceCtorEq]at h
 ·obtain⟨a,e,rfl⟩:=h;exact I8 e c
 ·subst h;exact c
def Fr{b:U 32}(h:d.oC=some b)(c:aJ β d.list vs):aJ β (b.l.map .aD) vs:=by
 cases d<;>simp only[Data.oC,bU,aB,reduceCtorEq]at h
 ·obtain⟨a,e,rfl⟩:=h;exact Po e c
 ·subst h;exact c
def Fs{b:U 64}(h:d.oD=some b)(c:aJ β d.list vs):aJ β (b.l.map .au) vs:=by
 cases d<;>simp only[Data.oD,bU,aB,reduceCtorEq]at h
 ·obtain⟨a,e,rfl⟩:=h;exact Pp e c
 ·subst h;exact c
end
def I9(h:d.words=some P):(∃v,d.j7=some v∧P=.ag v)∨(∃v,d.oC=some v∧P=.eY v)∨(∃v,d.oD=some v∧P=.bt v):=by
 unfold Data.words at h;split at h
 ·split at h
  ·rename_i v a;injection h with h;exact .inl ⟨v,a,h.symm⟩
  ·split at h
   ·rename_i v a;injection h with h;exact .inr (.inl ⟨v,a,h.symm⟩)
   ·split at h
    ·rename_i v a;injection h with h;exact .inr (.inr ⟨v,a,h.symm⟩)
    ·cases h
 ·cases h
def z5(h:d.words=some P):P.len=d.len:=by
 rcases I9 h with⟨v,k,rfl⟩|⟨v,k,rfl⟩|⟨v,k,rfl⟩
 ·exact Ct k
 ·exact Fp k
 ·exact Fq k
def Pq(h:d.words=some P){β:aE}(a:aJ β d.list vs):aJ β P.list vs:=by
 rcases I9 h with⟨v,k,rfl⟩|⟨v,k,rfl⟩|⟨v,k,rfl⟩
 ·exact Cu k a
 ·exact Fr k a
 ·exact Fs k a
def Ft{l:List T}(h:cU f l=some r){c:V}(b:r[i]? =some c):∃a,l[i]? =some a∧f a=some c:=by
 induction l generalizing r i with
 |nil=>simp[cU]at h;subst h;simp at b|cons a l e=>
  simp only[cU]at h;cases h1:f a with
  |none=>simp[h1]at h|some z=>
   cases h2:cU f l with
   |none=>simp[h1,h2]at h|some g=>
    simp[h1,h2]at h;subst h;cases i with
    |zero=>simp at b;subst b;exact⟨a,rfl,h1⟩|succ i=>simpa using e h2 (by simpa using b)
def Ja(h:d.words=some P){o:af}(b:P.at i=some o):∃a,d.at i=some a∧∀(β:aE) v,aC β a v→aC β o v:=by
 cases d with
 |gen l=>
  rcases I9 h with⟨u,k,rfl⟩|⟨u,k,rfl⟩|⟨u,k,rfl⟩
  ·simp only[Data.j7,bU]at k;obtain⟨r,c,rfl⟩:=k;simp only[Data.at,U.of,bU]at b;obtain⟨e,g,rfl⟩:=b;obtain⟨a,h1,h2⟩:=Ft c g;refine⟨a,h1,fun β v j=>?_⟩;cases a<;>simp only[af.fD,reduceCtorEq]at h2;rw[j.num_inv,bh.rX h2];exact .num (.bQ e)
  ·simp only[Data.oC,bU]at k;obtain⟨r,c,rfl⟩:=k;simp only[Data.at,U.of,bU]at b;obtain⟨e,g,rfl⟩:=b;obtain⟨a,h1,h2⟩:=Ft c g;refine⟨a,h1,fun β v j=>?_⟩;cases a<;>simp only[af.iq,reduceCtorEq]at h2;rw[j.num_inv,bh.u9 h2];exact .num (.aD e)
  ·simp only[Data.oD,bU]at k;obtain⟨r,c,rfl⟩:=k;simp only[Data.at,U.of,bU]at b;obtain⟨e,g,rfl⟩:=b;obtain⟨a,h1,h2⟩:=Ft c g;refine⟨a,h1,fun β v j=>?_⟩;cases a<;>simp only[af.fE,reduceCtorEq]at h2;rw[j.num_inv,bh.oN h2];exact .num (.au e)
 |_=>simp[Data.words]at h
def Pr:∀(l:List af),(mE l).1++(mE l).2=l
 |[]=>rfl|a::r=>by
  unfold mE;cases a.fD with
  |some _=>rfl|none=>exact iZ (a::·) (Pr r)
def Pt:∀(l:List af),∃cs,l=cs++(oE l).2∧cU af.fD cs=some (oE l).1
 |[]=>⟨[],rfl,rfl⟩|a::r=>by
  unfold oE;cases b:a.fD with
  |none=>exact⟨[],rfl,rfl⟩|some w=>
   obtain⟨cs,h1,h2⟩:=Pt r;refine⟨a::cs,iZ (a::·) h1,?_⟩;simp only[cU,b,h2]
def Jb(h:d.mid=some m):∃cs,d=.gen (m.pre++(cs++m.post))∧cU af.fD cs=some m.row.l:=by
 cases d with
 |gen l=>
  simp only[Data.mid,aB]at h;subst h;obtain⟨cs,h1,h2⟩:=Pt (mE l).2;refine⟨cs,?_,h2⟩
  show Data.gen l=Data.gen ((mE l).1++(cs++(oE (mE l).2).2));rw[←h1,Pr]
 |_=>simp[Data.mid]at h
def Ys(v:U 8):Ey v v.n=v.l.map .bQ:=by
 have a:=v.h;refine uH fun i=>?_;unfold Ey;rw[dY,dY];rcases cv i v.n with h|h
 ·simp[h,show i<v.l.length by omega]
 ·simp[h,show v.l.length≤i by omega]
def Fu(h:d.mid=some m):d.len=m.pre.length+m.row.n+m.post.length:=by
 obtain⟨cs,rfl,h2⟩:=Jb h;have h3:=tE h2;have h4:=m.row.h;simp only[Data.len,fA];omega
def Pu(h:d.mid=some m){β:aE}(a:aJ β d.list vs):aJ β (m.pre++(m.row.l.map .bQ++m.post)) vs:=by
 obtain⟨cs,rfl,h2⟩:=Jb h;have h3:=tE h2;have h4:=m.row.h;have g:=a.1;simp only[Data.list,fA]at g;have j:vs=vs.take m.pre.length++((vs.drop m.pre.length).take cs.length++(vs.drop m.pre.length).drop cs.length):=by
  rw[Em,Em]
 have b:=a.take m.pre.length;have c:=(a.drop m.pre.length).take cs.length;have e:=(a.drop m.pre.length).drop cs.length;simp only[Data.list]at b c e;rw[List.take_left' rfl]at b;rw[Wk rfl,List.take_left' rfl]at c;rw[Wk rfl,Wk rfl]at e;rw[j];exact b.append ((I8 h2 c).append e)
def Pv(h:d.mid=some m){y:BitVec 8}(b:m.row.l[i]? =some y):∃a,d.at (m.pre.length+i)=some a∧∀(β:aE) v,aC β a v→aC β (.bQ y) v:=by
 obtain⟨cs,rfl,h2⟩:=Jb h;obtain⟨a,h3,h4⟩:=Ft h2 b;refine⟨a,?_,fun β v c=>?_⟩
 ·show(m.pre++(cs++m.post))[m.pre.length+i]? =_;rw[ie (by omega),uI,iE (by
   rcases cv i cs.length with h|h
   ·exact h
   ·rw[di h]at h3;cases h3)]
  exact h3
 ·cases a<;>simp only[af.fD,reduceCtorEq]at h4;rw[c.num_inv,bh.rX h4];exact .num (.bQ y)
def Jc(a:v.n=m.row.n):(m.put v).list=m.pre++(v.l.map .bQ++m.post):=by
 show m.pre++(Ey v m.row.n++m.post)=_;rw[←a,Ys]
def Pw(h:d.mid=some m)(a:v.n=m.row.n):(m.put v).len=d.len:=by
 rw[Fu h,←Data.jB,Jc a];have:=v.h;simp only[fA,lQ];omega
def Px(h:d.mF n Q S=some (l,R)):Pure S R∧(R.ok→Q.v+n≤d.len∧l.length=n∧∀(j:Nat) e,j<n→l[j]? =some e→d.at (Q.v+j)=some e):=by
 cases d with
 |gen d=>
  cases Q with
  |s _=>simp[Data.mF]at h|c Q=>
   simp only[Data.mF,bU,aN]at h;obtain⟨p,h,rfl,rfl⟩:=h;obtain⟨h1,rfl⟩:=Cs _ _ _ _ h;refine⟨Pure.refl _,fun _=>⟨h1,by simp;omega,fun j e b a=>?_⟩⟩;simp only[lP,b,gT,s9]at a;exact a
 |ag v=>
  simp only[Data.mF,aB,aN]at h;obtain⟨rfl,rfl⟩:=h;refine⟨gi _ _,fun g=>?_⟩;have k:=aZ (gp g);have o:=v.h;refine⟨k,by simp,fun j e b a=>?_⟩;simp[b]at a;simp[Data.at,show Q.v+j<v.l.length by omega]at a⊢;exact a
 |eY v=>
  simp only[Data.mF,aB,aN]at h;obtain⟨rfl,rfl⟩:=h;refine⟨gi _ _,fun g=>?_⟩;have k:=aZ (gp g);have o:=v.h;refine⟨k,by simp,fun j e b a=>?_⟩;simp[b]at a;simp[Data.at,show Q.v+j<v.l.length by omega]at a⊢;exact a
 |bt v=>
  simp only[Data.mF,aB,aN]at h;obtain⟨rfl,rfl⟩:=h;refine⟨gi _ _,fun g=>?_⟩;have k:=aZ (gp g);have o:=v.h;refine⟨k,by simp,fun j e b a=>?_⟩;simp[b]at a;simp[Data.at,show Q.v+j<v.l.length by omega]at a⊢;exact a
 |spot _ _ _=>simp[Data.mF]at h|fc _ _=>simp[Data.mF]at h|lim _ _=>simp[Data.mF]at h
def Yt(h:d.cells n Q S=some (l,R)):Pure S R∧(R.ok→Q.v+n≤d.len∧l.length=n∧∀(j:Nat) a,j<n→l[j]? =some a→∃o,d.at (Q.v+j)=some o∧∀(β:aE) v,aC β o v→aC β a v):=by
 unfold Data.cells at h;split at h
 ·rename_i r q;cases h;obtain⟨h1,h2⟩:=Px q;refine⟨h1,fun ok=>?_⟩;obtain⟨b,c,e⟩:=h2 ok;exact⟨b,c,fun j a g k=>⟨a,e j a g k,fun _ _ h=>h⟩⟩
 ·split at h
  ·rename_i P p;obtain⟨h1,h2⟩:=Px h;refine⟨h1,fun ok=>?_⟩;obtain⟨b,c,e⟩:=h2 ok;exact⟨by rw[←z5 p];exact b,c,fun j a g k=>Ja p (e j a g k)⟩
  ·cases h
end
section
variable [aR][aF]
variable{L:Loc}{b:Nat}{k:ah}{Q:af}{R:N}{w':World}{c i:Nat}{a:af}{U:Value}{g:Nat}
section
variable{P:Program}{G:Nat→Option (List af)}{β:aE}{T:List ah}{w:World}
def Yu{R:Nat}{vs:List Value}{t:TypeId}{d:Nat×Nat}(h:w.heap[c]? =some (.cells ⟨vs⟩ t d)):w.cell? (at' c R)=vs[R]? :=by
 simp[World.cell?,at',h]
def fH.tu{d:Data}(h:fH d c)(e:d.at i=some Q):gm (at' c i) false:=by
 cases d with
 |lim f l=>
  simp only[Data.at]at e;split at e
  ·rename_i j;exact⟨rfl,.inl ⟨h.1,fun _=>by rw[←h.2];exact j⟩⟩
  ·cases e
 |_=>exact oK.tu h i false
def g8.cell(f:g8 β k L w)(n:k.mode.alive)(e:k.data.at i=some Q):
 ∃v,w.cell? (at' L.c (L.base+i))=some v∧aC β Q v∧gm (at' L.c (L.base+i)) false:=by
 obtain⟨d,m⟩:=k;cases m with
 |bn=>exact absurd rfl n|ro=>exact f.2.2 i Q e|own=>
  obtain⟨h,o,vs,t,bu,p,u,x,q,j⟩:=f;simp only at e q j;have r:=o.tu e;replace e:=Data.Yr e;obtain⟨v,l,s⟩:=j.get e;refine⟨v,?_,s,by rw[h,cM];exact r⟩;rw[h,cM,Yu p];rw[lP]at l;split at l<;>simp_all
def ai.sg{S:ai}{d:Data}(h:S.read b=some d):∃m:Mode,S.H[b]? =some ⟨d,m⟩∧m.alive:=by
 unfold ai.read at h;rw[cg]at h;cases e:S.H[b]? with
 |none=>simp[e]at h|some k=>
  obtain⟨f,m⟩:=k;rw[e]at h;cases m<;>simp at h<;>subst h<;>exact⟨_,rfl,by intro h;cases h⟩
def Data.Py{d:Data}{S j:ai}(h:d.mD R S=some (Q,j)):Pure S j∧(j.ok→d.at R.v=some Q):=by
 cases d with
 |gen l=>
  cases R<;>simp[Data.mD]at h;obtain⟨a,p,rfl,rfl⟩:=h;rw[cg]at p;exact⟨Pure.refl _,fun _=>p⟩
 |ag l=>
  simp only[Data.mD,aB,aN]at h;obtain⟨rfl,rfl⟩:=h;refine⟨gi _ _,fun e=>?_⟩;have m:=aZ (gp e);have o:=l.h;simp[Data.at,show R.v<l.l.length by omega]
 |eY l=>
  simp only[Data.mD,aB,aN]at h;obtain⟨rfl,rfl⟩:=h;refine⟨gi _ _,fun e=>?_⟩;have m:=aZ (gp e);have o:=l.h;simp[Data.at,show R.v<l.l.length by omega]
 |bt l=>
  simp only[Data.mD,aB,aN]at h;obtain⟨rfl,rfl⟩:=h;refine⟨gi _ _,fun e=>?_⟩;have m:=aZ (gp e);have o:=l.h;simp[Data.at,show R.v<l.l.length by omega]
 |fc _ _=>simp[Data.mD]at h|lim f l=>
  simp only[Data.mD,aB,aN]at h;obtain⟨rfl,rfl⟩:=h;refine⟨(gi _ _).trans (gi _ _),fun e=>?_⟩;have q:=gp e;have m:=aZ (gp ((gi _ _).ok e));have o:=l.h;simp[Data.at,q,show R.v<l.l.length by omega]
 |spot n r s=>
  simp only[Data.mD,aB,aN]at h;obtain⟨rfl,rfl⟩:=h;refine⟨gi _ _,fun e=>?_⟩;obtain⟨h1,h2⟩:=aZ (gp e);rw[h1];simp[Data.at,h2]
def Data.Yv{d:Data}{S e:ai}(h:d.zk R S=some (Q,e)):Pure S e∧(e.ok→∃y,d.at R.v=some y∧∀(β:aE) v,aC β y v→aC β Q v):=by
 unfold Data.zk at h;split at h
 ·rename_i m f;simp only[aB,aN]at h;obtain⟨rfl,rfl⟩:=h;refine⟨gi _ _,fun j=>?_⟩;have n:=aZ (gp j);have o:=m.row.h;obtain⟨y,h1,h2⟩:=Pv f (i:=R.v-m.pre.length) (y:=m.row.l.getD (R.v-m.pre.length) 0#8) (by simp[show R.v-m.pre.length<m.row.l.length by omega]);exact⟨y,by rw[show R.v=m.pre.length+(R.v-m.pre.length) by omega];exact h1,h2⟩
 ·cases h
def Data.Pz{d:Data}{S e:ai}(h:d.get R S=some (Q,e)):Pure S e∧(e.ok→∃f,d.at R.v=some f∧∀(β:aE) v,aC β f v→aC β Q v):=by
 unfold Data.get at h;split at h
 ·rename_i r j;cases h;obtain⟨h1,h2⟩:=Data.Py j;exact⟨h1,fun ok=>⟨Q,h2 ok,fun _ _ h=>h⟩⟩
 ·split at h
  ·rename_i m l;obtain⟨h1,h2⟩:=Data.Py h;exact⟨h1,fun ok=>Ja l (h2 ok)⟩
  ·exact Data.Yv h
def PC{S f:ai}(u:aL G β S.H w)(x:aC β a U)(h:uQ G a S=some (Q,f)):
 Pure S f∧(f.ok→∃p v,U=.pointer (some p)∧w.cell? p=some v∧aC β Q v∧gm p false):=by
 unfold uQ at h;split at h
 ·rename_i b R;obtain⟨L,y,rfl⟩:=x.sd;cases j:S.read b with
  |none=>simp[j]at h|some d=>
   simp only[j]at h;obtain⟨n,e⟩:=Data.Pz h;refine⟨n,fun ok=>?_⟩;obtain⟨z,e,o⟩:=e ok;obtain⟨m,D,A⟩:=ai.sg j;rcases u.blk b _ D A with⟨I,B,E⟩|⟨_,C⟩
   ·rw[y]at B;injection B with F;subst F;obtain⟨v,q,r,s⟩:=E.cell A e;exact⟨_,v,rfl,q,o _ _ r,s⟩
   ·rw[y]at C;cases C
 ·rename_i g R;rw[x.Cr];cases t:G g with
  |none=>simp[t]at h|some l=>
   simp only[t]at h;obtain⟨n,e⟩:=Data.Pz h;refine⟨n,fun ok=>?_⟩;obtain⟨z,e,o⟩:=e ok;obtain⟨v,q,r,s⟩:=(u.dB g l t).2 _ z e;exact⟨_,v,rfl,q,(o _ _ r).mono (fun _ _ h=>by cases h),s⟩
 ·cases h
def oT(c R n:Nat):(at' c R).add n=at' c (R+n):=by
 unfold Addr.add at';split<;>simp_all
def Cv(k R n:Nat):(gK k R).add n=gK k (R+n):=by
 obtain⟨b,d⟩:=r8 k;rw[d,d,oT,iF]
def PD{S z:ai}{n:Nat}{l:List af}(I:aL G β S.H w)(J:aC β a U)(h:rR G a n S=some (l,z)):
 Pure S z∧(z.ok→∃p vs,U=.pointer (some p)∧aJ β l vs∧l.length=n∧(∀(j:Nat) v,vs[j]? =some v→w.cell? (p.add j)=some v)∧∀j,j<n→gm (p.add j) false):=by
 have K:∀(f:Nat→Option af) (p:Addr) (l:List af),l.length=n→(∀j,j<n→∃v,w.cell? (p.add j)=some v∧∀Q,l[j]? =some Q→aC β Q v)→
  ∃vs,aJ β l vs∧∀(j:Nat) v,vs[j]? =some v→w.cell? (p.add j)=some v:=by
  intro f p l Y e;refine⟨(List.range n).map fun j=>(w.cell? (p.add j)).getD undef,⟨by simp[Y],?_⟩,?_⟩
  ·intro j Q v A o;rcases cv j n with q|q
   ·obtain⟨u,y,Z⟩:=e j q;simp[q,y]at o;subst o;exact Z Q A
   ·rw[di (by omega)]at A;cases A
  ·intro j v o;rcases cv j n with q|q
   ·obtain⟨u,y,_⟩:=e j q;simp[q,y]at o;rw[y,o]
   ·simp[show¬j<n by omega]at o
 unfold rR at h;split at h
 ·rename_i b R;obtain⟨L,M,rfl⟩:=J.sd;cases B:S.read b with
  |none=>simp[B]at h|some d=>
   simp only[B]at h;obtain⟨aa,ab⟩:=Yt h;refine⟨aa,fun ok=>?_⟩;obtain⟨h1,t,ad⟩:=ab ok;obtain⟨m,ae,O⟩:=ai.sg B;have x:∀j,j<n→∃v,(w.cell? ((at' L.c (L.base+R.v)).add j)=some v∧∀Q,l[j]? =some Q→aC β Q v)∧gm ((at' L.c (L.base+R.v)).add j) false:=by
    intro j e;rcases I.blk b _ ae O with⟨am,V,ag⟩|⟨an,W⟩
    ·rw[M]at V;injection V with aj;subst aj;have X:l[j]? =some l[j]:=bW (by omega);obtain⟨ao,ak,al⟩:=ad j _ e X;obtain⟨v,o,C,D⟩:=ag.cell O ak;refine⟨v,⟨by rw[oT,iF];exact o,fun Q r=>?_⟩,by rw[oT,iF];exact D⟩;rw[X]at r;injection r with r;subst r;exact al _ _ C
    ·rw[M]at W;cases W
   have E:∀j,j<n→∃v,w.cell? ((at' L.c (L.base+R.v)).add j)=some v∧∀Q,l[j]? =some Q→aC β Q v:=fun j e=>let⟨v,h,_⟩:=x j e;⟨v,h⟩;obtain⟨vs,h3,h4⟩:=K (fun _=>none) (at' L.c (L.base+R.v)) _ t E;exact⟨_,vs,rfl,h3,t,h4,fun j e=>let⟨_,_,h⟩:=x j e;h⟩
 ·rename_i g R;rw[J.Cr];cases R with
  |s _=>simp at h|c R=>
   simp only at h;cases n with
   |zero=>
    simp only[aB,aN]at h;obtain⟨rfl,rfl⟩:=h;exact⟨Pure.refl _,fun _=>⟨_,[],rfl,aJ.nil β,rfl,fun j v o=>by simp at o,fun j e=>absurd e (ox _)⟩⟩
   |succ n=>
    simp only at h;cases F:G g with
    |none=>simp[F]at h|some d=>
     simp only[F,bU,aN]at h;obtain⟨ap,h,rfl,rfl⟩:=h;obtain⟨h1,rfl⟩:=Cs _ _ _ _ h;have t:((d.drop R).take (n+1)).length=n+1:=by simp;omega
     have x:∀j,j<n+1→∃v,(w.cell? ((gK g R).add j)=some v∧∀Q,((d.drop R).take (n+1))[j]? =some Q→aC β Q v)∧gm ((gK g R).add j) false:=by
      intro j e;obtain⟨v,o,C,D⟩:=(I.dB g d F).2 (R+j) d[R+j] (by simp[show R+j<d.length by omega]);refine⟨v,⟨by rw[Cv];exact o,fun Q r=>?_⟩,by rw[Cv];exact D⟩;have:Q=d[R+j]:=by
       simp[e,show R+j<d.length by omega]at r;exact r.symm
      rw[this];exact C.mono (fun _ _ h=>by cases h)
     have E:∀j,j<n+1→∃v,w.cell? ((gK g R).add j)=some v∧∀Q,((d.drop R).take (n+1))[j]? =some Q→aC β Q v:=fun j e=>let⟨v,h,_⟩:=x j e;⟨v,h⟩;obtain⟨vs,h3,h4⟩:=K (fun _=>none) (gK g R) _ t E;exact⟨Pure.refl _,fun _=>⟨_,vs,rfl,h3,t,h4,fun j e=>let⟨_,_,h⟩:=x j e;h⟩⟩
 ·cases h
def aE.put(β:aE)(b:Nat)(L:Loc):aE:=fun Q=>if Q=b then some L else β Q
def aE.Fv{β:aE}(h:β b=none):aE.le β (β.put b L):=by
 intro Q f d;unfold aE.put;split
 ·rename_i e;subst e;rw[h]at d;cases d
 ·exact d
def aE.fJ(β:aE)(b:Nat)(L:Loc):β.put b L b=some L:=by simp[aE.put]
def aE.gX{β:aE}{Q:Nat}(h:Q≠b):β.put b L Q=β Q:=by simp[aE.put,h]
def aL.Je(h:aL G β T w):β T.length=none:=by
 cases d:β T.length with
 |none=>rfl|some L=>exact absurd (h.fW _ L d) (by omega)
def je.mono{e:aE}{d:Data}(j:aE.le β e)(h:je β d L w)(l:w.heap.size≤w'.heap.size)(m:bL L.c w w'):je e d L w':=
 ⟨dL h.1 l,h.2.1,fun i Q n=>by
  obtain⟨v,o,p,f⟩:=h.2.2 i Q n;exact⟨v,m.cell f o,p.mono j,f⟩⟩
def se.mono{e:aE}{d:Data}(j:aE.le β e)(h:se β d L w)(l:bL L.c w w'):se e d L w':=by
 obtain⟨m,f,vs,t,bu,n,o,p,q,r⟩:=h;exact⟨m,f,vs,t,bu,by rw[l.1 f.mine];exact n,o,p,q,r.mono j⟩
def g8.mono{e:aE}(f:aE.le β e)(h:g8 β k L w)(l:w.heap.size≤w'.heap.size)(j:bL L.c w w'):g8 e k L w':=by
 obtain⟨d,m⟩:=k;cases m
 ·exact je.mono f h l j
 ·exact se.mono f h j
 ·trivial
def g8.lt(h:g8 β k L w)(e:k.mode.alive):L.c<w.heap.size:=by
 obtain⟨d,m⟩:=k;cases m
 ·exact h.1
 ·obtain⟨_,_,vs,t,bu,f,_⟩:=h;exact(dW.1 f).1
 ·exact absurd rfl e
def g8.room(h:g8 β k L w)(e:k.mode.alive):k.data.len≤L.room:=by
 obtain⟨d,m⟩:=k;cases m
 ·exact h.2.1
 ·obtain⟨_,_,vs,t,bu,j,_,_,f,_⟩:=h;exact f
 ·exact absurd rfl e
def aL.room(h:aL G β T w)(l:T[b]? =some k)(d:k.mode.alive)(e:β b=some L):k.data.len≤L.room:=by
 rcases h.blk b k l d with⟨o,f,m⟩|⟨_,j⟩
 ·rw[e]at f;injection f with n;subst n;exact m.room d
 ·rw[e]at j;cases j
def aL.lt(h:aL G β T w)(l:T[b]? =some k)(d:k.mode.alive)(e:β b=some L):L.c<w.heap.size:=by
 rcases h.blk b k l d with⟨o,f,m⟩|⟨_,j⟩
 ·rw[e]at f;injection f with n;subst n;exact m.lt d
 ·rw[e]at j;cases j
def eu(h:k.mode=.own):k.mode.alive:=by rw[h];intro h;cases h
def aL.new(j:aL G β T w)(d:Data)(vs:List Value)(t:TypeId)(E:d.len≤vs.length)(F:aJ β d.list (vs.take d.len))(H:fH d w.heap.size):
 aL G (β.put T.length ⟨w.heap.size,0,vs.length⟩) (T++[⟨d,.own⟩]) (w.alloc (.cells ⟨vs⟩ t))∧
 bM β T w (β.put T.length ⟨w.heap.size,0,vs.length⟩) (T++[⟨d,.own⟩]) (w.alloc (.cells ⟨vs⟩ t)):=by
 have s:=aE.Fv (L:=⟨w.heap.size,0,vs.length⟩) j.Je;have hold:∀c,c<w.heap.size→(w.alloc (.cells ⟨vs⟩ t)).heap[c]? =w.heap[c]? :=fun c u=>RowKit.Below.heap_alloc w _ c u;have I:(w.alloc (.cells ⟨vs⟩ t)).heap[w.heap.size]? =some (.cells ⟨vs⟩ t (0,0)):=by
  show(w.heap.push _)[w.heap.size]? =_;simp
 have X:(w.alloc (.cells ⟨vs⟩ t)).heap.size=w.heap.size+1:=by
  show(w.heap.push _).size=_;simp
 have n:∀(b:Nat) k,(T++[⟨d,.own⟩])[b]? =some k→(b<T.length∧T[b]? =some k)∨(b=T.length∧k=⟨d,.own⟩):=by
  intro b k e;rcases w6 b T.length with h|h|h
  ·rw[iE h]at e;exact .inl ⟨h,e⟩
  ·subst h;simp at e;exact .inr ⟨rfl,e.symm⟩
  ·rw[ie (by omega)]at e;rw[di (by simp;omega)]at e;cases e
 refine⟨⟨?_,?_,?_,?_,?_⟩,⟨s,by simp,rfl,rfl,rfl,by omega,fun c u _=>bL.of (hold c u),?_,fun b n=>aE.gX (by omega)⟩⟩
 ·intro b k e r;rcases n b k e with⟨h,e⟩|⟨rfl,rfl⟩
  ·rcases j.blk b k e r with⟨L,f,A⟩|⟨h2,h3⟩
   ·exact .inl ⟨L,s b L f,A.mono s (by omega) (bL.of (hold _ (A.lt r)))⟩
   ·exact .inr ⟨h2,by rw[aE.gX (by omega)];exact h3⟩
  ·exact .inl ⟨_,aE.fJ ..,rfl,H,vs,t,(0,0),I,.inl rfl,rfl,E,F.mono s⟩
 ·intro b x k y L J B e o p r f q;rcases n b k e with⟨h,e⟩|⟨rfl,rfl⟩
  ·rw[aE.gX (by omega)]at f;rcases n x y o with⟨K,o⟩|⟨rfl,rfl⟩
   ·rw[aE.gX (by omega)]at q;exact j.dO b x k y L J B e o p r f q
   ·rw[aE.fJ]at q;injection q with m;subst m;have:=j.lt e (eu p) f;simp only;omega
  ·rw[aE.fJ]at f;injection f with m;subst m;rcases n x y o with⟨K,o⟩|⟨rfl,rfl⟩
   ·rw[aE.gX (by omega)]at q;have:=j.lt o r q;simp only;omega
   ·exact absurd rfl B
 ·intro b L f;simp only[fA,iY,kK];by_cases m:b=T.length
  ·omega
  ·rw[aE.gX m]at f;have:=j.fW b L f;omega
 ·intro g l z;obtain⟨h1,h2⟩:=j.dB g l z;refine⟨by omega,fun i Q M=>?_⟩;obtain⟨v,C,O,S⟩:=h2 i Q M;obtain⟨V,W⟩:=r8 g;exact⟨v,by rw[W]at C⊢;rw[World.cell?_of_block (w:=w) (a:=at' (g7 g) (V+i)) (hold _ h1)];exact C,O,S⟩
 ·intro b k L e p f;rcases n b k e with⟨h,e⟩|⟨rfl,rfl⟩
  ·rw[aE.gX (by omega)]at f;exact j.apart b k L e p f
  ·rw[aE.fJ]at f;injection f with m;subst m;intro g l z;have:=(j.dB _ l z).1;simp only;omega
 ·intro c u ⟨b,k,L,e,p,f,D⟩;rcases n b k e with⟨h,e⟩|⟨rfl,rfl⟩
  ·rw[aE.gX (by omega)]at f;exact⟨b,k,L,e,p,f,D⟩
  ·rw[aE.fJ]at f;injection f with m;subst m;simp only at D;omega
def aL.write(f:aL G β T w){d d':Data}(n:T[b]? =some ⟨d,.own⟩)(q:β b=some L)(p:List Value)
 (M:p.length=L.room) (W:d'.len≤L.room) (X:aJ β d'.list (p.take d'.len)) (Y:∀c,fH d c→fH d' c):
 aL G β (T.set b ⟨d',.own⟩) (w.setRow L.c ⟨p⟩)∧bM β T w β (T.set b ⟨d',.own⟩) (w.setRow L.c ⟨p⟩):=by
 have Z:b<T.length:=by
  rcases cv b T.length with h|h
  ·exact h
  ·simp[di h]at n
 have aa:se β d L w:=by
  rcases f.blk b _ n (eu rfl)with⟨j,m,D⟩|⟨_,A⟩
  ·rw[q]at m;injection m with o;subst o;exact D
  ·rw[q]at A;cases A
 obtain⟨ab,ad,vs,t,bu,ae,ag,ai,ap,aq⟩:=aa;have r:∀(Q:Nat) k,(T.set b ⟨d',.own⟩)[Q]? =some k→(Q=b∧k=⟨d',.own⟩)∨(Q≠b∧T[Q]? =some k):=by
  intro Q k e;by_cases o:Q=b
  ·subst o;rw[pL Z]at e;injection e with e;exact .inl ⟨rfl,e.symm⟩
  ·rw[mw (fB o)]at e;exact .inr ⟨o,e⟩
 have aj:=setRow_heap w L.c ⟨vs⟩ ⟨p⟩ t bu ae;have E:∀c,c≠L.c→(w.setRow L.c ⟨p⟩).heap[c]? =w.heap[c]? :=fun c F=>setRow_other w L.c c _ F;refine⟨⟨?_,?_,?_,?_,?_⟩,⟨aE.le_refl β,by simp,rfl,rfl,rfl,by simp,?_,?_,fun _ _=>rfl⟩⟩
 ·intro Q k e z;rcases r Q k e with⟨rfl,rfl⟩|⟨s,e⟩
  ·exact .inl ⟨L,q,ab,Y _ ad,p,t,bu,aj,by rw[M,←ai];exact ag,M,W,X⟩
  ·rcases f.blk Q k e z with⟨j,m,D⟩|h
   ·refine .inl ⟨j,m,D.mono (aE.le_refl β) (by simp) (bL.of (E _ ?_))⟩;exact(f.dO b Q _ k L j (fB s) n e rfl z q m).symm
   ·exact .inr h
 ·intro Q B k C H I u e x y z J K;rcases r Q k e with⟨rfl,rfl⟩|⟨s,e⟩
  ·rcases r B C x with⟨rfl,rfl⟩|⟨ak,x⟩
   ·exact absurd rfl u
   ·exact f.dO Q B _ C H I u n x rfl z J K
  ·rcases r B C x with⟨o,rfl⟩|⟨ak,x⟩
   ·subst o;exact f.dO Q _ k _ H I u (by assumption) n y (eu rfl) J K
   ·exact f.dO Q B k C H I u (by assumption) x y z J K
 ·intro Q j h;simpa using f.fW Q j h
 ·intro g l O;obtain⟨h1,h2⟩:=f.dB g l O;refine⟨by simpa using h1,fun i Q s=>?_⟩;obtain⟨v,S,al,am⟩:=h2 i Q s;have u:g7 g≠L.c:=f.apart b _ L n rfl q g l O;obtain⟨an,ao⟩:=r8 g;exact⟨v,by rw[ao]at S⊢;rw[World.cell?_of_block (w:=w) (a:=at' (g7 g) (an+i)) (E _ u)];exact S,al,am⟩
 ·intro Q k j e y m;rcases r Q k e with⟨rfl,rfl⟩|⟨s,e⟩
  ·exact f.apart Q _ j n rfl m
  ·exact f.apart Q k j e y m
 ·intro c F A;refine bL.of (E c fun o=>A ⟨b,_,L,n,rfl,q,o.symm⟩)
 ·intro c F ⟨Q,k,j,e,y,m,V⟩;rcases r Q k e with⟨rfl,rfl⟩|⟨s,e⟩
  ·exact⟨Q,_,j,n,rfl,m,V⟩
  ·exact⟨Q,k,j,e,y,m,V⟩
def aL.kill(j:aL G β T w)(b:Nat)(d:Data):aL G β (T.set b ⟨d,.bn⟩) w:=by
 have m:∀(Q:Nat) k,(T.set b ⟨d,.bn⟩)[Q]? =some k→k.mode.alive→T[Q]? =some k:=by
  intro Q k e f;by_cases n:Q=b
  ·subst n;rcases cv Q T.length with h|h
   ·rw[pL h]at e;injection e with e;subst e;exact absurd rfl f
   ·rw[di (by simpa using h)]at e;cases e
  ·rwa[mw (fB n)]at e
 refine⟨fun Q k e f=>j.blk Q k (m Q k e f) f,fun Q o k p L q r e s l f=>j.dO Q o k p L q r (m Q k e (eu l)) (m o p s f) l f,
  fun Q L h=>by simpa using j.fW Q L h,j.dB,fun Q k L e l=>j.apart Q k L (m Q k e (eu l)) l⟩
def Fw(P:Program)(g R:Nat)(t:TypeId)(bu:Nat×Nat):∀(vs:List Value) (i:Nat) (d:Array Value) (w:World),w.heap[g]? =some (.cells d t bu)→I7 bu d.size→R+i+vs.length≤d.size→(∀v∈vs,v.oneCell'=true)→(∀k,R+i≤k→k<R+i+vs.length→gm (at' g k) true)→
 (storeCells ⟨g,R,none⟩ vs i).aG P w=.ok () (w.setRow g (d.toList.take (R+i)++vs++d.toList.drop (R+i+vs.length)).toArray)
 |[],i,d,w,e,_,_,_,_=>by
  simp only[storeCells,uJ,kK,gd,Em,Array.toArray_toList];rw[setRow_self w g d t bu e];rfl
 |v::rest,i,d,w,e,j,h,h1,l=>by
  have hi:R+i<d.size:=by simp at h;omega
  have m:(⟨g,R,none⟩:Addr).add i=⟨g,R+i,none⟩:=by unfold Addr.add;split<;>simp_all
  have n:w.cell? ⟨g,R+i,none⟩=some d[R+i]:=by simp[World.cell?,e,hi]
  have o:w.frozen? ⟨g,R+i,none⟩=false:=by
   obtain⟨lo,x⟩:=bu;simp only[World.frozen?,e,y9,w7];rcases j with f|f
   ·injection f with p q;right;omega
   ·injection f with p q;left;omega
  have r:(store ((⟨g,R,none⟩:Addr).add i) v).aG P w=.ok () (w.setRow g (d.setIfInBounds (R+i) v)):=by
   rw[m,WS P w _ v (h1 v (by simp)) n o (l (R+i) (aX _) (by simp))];simp[setCell_eq_setRow w g (R+i) d t bu v e]
  have s:=Fw P g R t bu rest (i+1) (d.setIfInBounds (R+i) v) (w.setRow g (d.setIfInBounds (R+i) v)) (setRow_heap w g d _ t _ e) (by simpa using j) (by simp at h⊢;omega) (fun Q u=>h1 Q (by simp[u])) (fun k h1 h2=>l k (by omega) (by simp at h2⊢;omega));simp only[storeCells,Sem.rV,r,Result.andThen_ok,s,setRow_setRow];congr 3;have f:=list_seg_step d.toList (R+i) v rest (by simp at h⊢;omega);simpa[Wl,iF]using f
def aL.Yw(j:aL G β T w)(l:T[b]? =some k)(n:k.mode=.own)(e:β b=some L):aF.mine L.c:=by
 obtain⟨d,m⟩:=k;cases n;rcases j.blk b _ l (eu rfl)with⟨q,f,o⟩|⟨_,h⟩
 ·rw[e]at f;injection f with p;subst p;exact o.2.1.mine
 ·rw[e]at h;cases h
def aL.Yx(j:aL G β T w)(l:T[b]? =some k)(n:k.mode=.own)(e:β b=some L):fH k.data L.c:=by
 obtain⟨d,m⟩:=k;cases n;rcases j.blk b _ l (eu rfl)with⟨q,f,o⟩|⟨_,h⟩
 ·rw[e]at f;injection f with p;subst p;exact o.2.1
 ·rw[e]at h;cases h
def aL.rely(d:aL G β T w){f:World}(h:er w f):aL G β T f:=by
 refine⟨fun b k o j=>?_,d.dO,d.fW,fun g l p=>?_,d.apart⟩
 ·rcases d.blk b k o j with⟨L,q,m⟩|h2
  ·exact .inl ⟨L,q,m.mono (aE.le_refl β) h.size (h.Pn (m.lt j))⟩
  ·exact .inr h2
 ·obtain⟨h1,h2⟩:=d.dB g l p;refine⟨dL h1 h.size,fun i Q r=>?_⟩;obtain⟨v,n,s,e⟩:=h2 i Q r;obtain⟨u,t⟩:=r8 g;rw[t]at n e⊢;exact⟨v,h.cell e n,s,e⟩
def aL.mark(f:aL G β T w){d:Data}(n:T[b]? =some ⟨d,.own⟩)(j:β b=some L):
 ∃(e:TypeId),w.shape? L.c=some (e,L.room)∧aL G β T (w.freeze ⟨L.c,L.room,none⟩ 1)∧bM β T w β T (w.freeze ⟨L.c,L.room,none⟩ 1):=by
 have F:se β d L w:=by
  rcases f.blk b _ n (eu rfl)with⟨s,o,u⟩|⟨_,q⟩
  ·rw[j]at o;injection o with e;subst e;exact u
  ·rw[j]at q;cases q
 obtain⟨H,I,vs,t,bu,x,J,r,K,M⟩:=F;have O:L.c<w.heap.size:=(dW.1 x).1;have p:w.heap[L.c]=.cells ⟨vs⟩ t bu:=(dW.1 x).2;have S:(w.freeze ⟨L.c,L.room,none⟩ 1).heap[L.c]? =some (.cells ⟨vs⟩ t (vs.length,vs.length+1)):=by
  unfold World.freeze;rw[ak (by decide)];simp only;rw[dN (by simpa using O),Array.getElem_modify];obtain⟨lo,hi⟩:=bu;rcases J with e|e
  ·injection e with y z;subst y z;simp[p,r]
  ·injection e with y z;subst y z;simp[p,r]
 have A:∀c,c≠L.c→(w.freeze ⟨L.c,L.room,none⟩ 1).heap[c]? =w.heap[c]? :=by
  intro c C;unfold World.freeze;rw[ak (by decide)];simp only;rw[HT,ak (fB C)]
 have ab:(w.freeze ⟨L.c,L.room,none⟩ 1).heap.size=w.heap.size:=by
  unfold World.freeze;rw[ak (by decide)];simp
 have B:(w.freeze ⟨L.c,L.room,none⟩ 1).os=w.os∧(w.freeze ⟨L.c,L.room,none⟩ 1).tape=w.tape∧(w.freeze ⟨L.c,L.room,none⟩ 1).output=w.output:=by
  unfold World.freeze;rw[ak (by decide)];exact⟨rfl,rfl,rfl⟩
 refine⟨t,by simp[World.shape?,x,r],⟨?_,f.dO,f.fW,?_,f.apart⟩,⟨aE.le_refl β,aX _,B.1,B.2.1,B.2.2,by omega,?_,fun _ _ h=>h,fun _ _=>rfl⟩⟩
 ·intro Q k m D;by_cases e:Q=b
  ·subst e;rw[n]at m;injection m with m;subst m;exact .inl ⟨L,j,H,I,vs,t,_,S,.inr rfl,r,K,M⟩
  ·rcases f.blk Q k m D with⟨s,o,u⟩|h
   ·refine .inl ⟨s,o,u.mono (aE.le_refl β) (by omega) (bL.of (A _ ?_))⟩;exact(f.dO b Q _ k L s (fB e) n m rfl D j o).symm
   ·exact .inr h
 ·intro g l E;obtain⟨h1,h2⟩:=f.dB g l E;refine⟨by omega,fun i Q V=>?_⟩;obtain⟨v,p,W,X⟩:=h2 i Q V;have Y:g7 g≠L.c:=f.apart b _ L n rfl j g l E;obtain⟨Z,aa⟩:=r8 g;exact⟨v,by rw[aa]at p⊢;rw[World.cell?_of_block (w:=w) (a:=at' (g7 g) (Z+i)) (A _ Y)];exact p,W,X⟩
 ·intro c C q;refine bL.of (A c fun e=>q ?_);exact⟨b,_,L,n,rfl,j,e.symm⟩
def vr(w:World)(R:Obj):eV w (w.alloc R):=⟨rfl,rfl,rfl,fun c d _=>RowKit.Below.heap_alloc w _ c d⟩
def Jf(w:World)(d:aF.mine g)(vs:Array Value):eV w (w.setRow g vs):=⟨rfl,rfl,rfl,fun c h e=>setRow_other w g c _ (show c≠g from fun f=>e (by rw[f];exact d))⟩
def Yy(w:World):eV w w.drew:=⟨rfl,rfl,rfl,fun _ _ _=>rfl⟩
def eV.trans{a b c:World}(h:eV a b)(k:eV b c)(f:a.heap.size≤b.heap.size):eV a c:=
 ⟨k.os.trans h.os,k.tape.trans h.tape,k.output.trans h.output,fun Q d e=>(k.jT Q (dL d f) e).trans (h.jT Q d e)⟩
def Yz(w:World)(d:aF.mine g)(R n:Nat):eV w (w.freeze ⟨g,R,none⟩ n):=by
 unfold World.freeze;split
 ·exact eV.refl w
 ·refine⟨rfl,rfl,rfl,fun c h e=>?_⟩;simp only;rw[HT,ak (fun f=>e (by rw[←f];exact d))]
def xK{w:World}{R:Obj}(h:lp w (w.alloc R)):oK w.heap.size:=h _ (aX _) (by show w.heap.size<(w.heap.push _).size;simp)
def Jg{w:World}{R:Obj}(h:lp w (w.drew.alloc R)):oK w.drew.heap.size:=h _ (aX _) (by show w.heap.size<(w.heap.push _).size;simp)
def Jh(w:World)(R:Obj):eV w (w.drew.alloc R):=(Yy w).trans (vr _ _) (aX _)
def Fx(P:Program)(w:World)(a:Addr)(cs:List Value)(h:∀(j:Nat) v,cs[j]? =some v→w.cell? (a.add j)=some v)(l:∀j,j<cs.length→gm (a.add j) false):
 (loadCells a cs.length).aG P w=.ok ⟨cs⟩ w:=by
 have m:∀(n i:Nat) (d:Array Value),i+n=cs.length→d.toList=cs.take i→(loadCellsFrom a i n d).aG P w=.ok ⟨cs⟩ w:=by
  intro n
  induction n with
  |zero=>
   intro i d hi e;simp only[loadCellsFrom,Sem.fT];congr 1;apply jO;rw[e,qw (by omega)]
  |succ n o=>
   intro i d hi e;have f:i<cs.length:=by omega
   simp only[loadCellsFrom,Sem.rV,B7 P w (h i cs[i] (bW f)) (l i f),Result.andThen_ok];refine o (i+1) _ (by omega) ?_;rw[Array.toList_push,e,Wm,bW f];rfl
 exact m cs.length 0 #[] (by omega) (by simp)
def vt(P:Program)(w:World)(size n:Nat)(b:Addr)(len d:Nat)(cs:List Value)(e:cs.length=n*size)(h:∀(j:Nat) v,cs[j]? =some v→w.cell? (b.add j)=some v)(f:∀j,j<cs.length→gm (b.add j) false):
 (Builtin.firstCells size n (.slice (some b) len d)).aG P w=.ok ⟨cs⟩ w:=by
 simp only[Builtin.firstCells,←e];exact Fx P w b cs h f
def xL(P:Program)(w:World)(size n len d:Nat):(Builtin.firstCells size n (.slice none len d)).aG P w=.ok #[] w:=by simp[Builtin.firstCells]
def ai.z6{S e:ai}{d:Data}(h:S.write b d=some e):∃j,S.H[b]? =some ⟨j,.own⟩∧e.H=S.H.set b ⟨d,.own⟩∧e.low=min S.low b∧e.cond=S.cond∧e.dec=S.dec:=by
 unfold ai.write at h;rw[cg]at h;cases f:S.H[b]? with
 |none=>simp[f]at h|some k=>
  obtain⟨l,m⟩:=k;rw[f]at h;cases m<;>simp at h;subst h;exact⟨l,rfl,iO _ _ _,rfl,rfl,rfl⟩
end
end
section
variable [aR][aF]
variable{S T:ai}{o:N}{Q:af}{t:TypeId}{v:Value}{b n:Nat}{l R:List af}{vs:List Value}{V:Type}{W:ai}
section
variable{P:Program}{G:Nat→Option (List af)}{β:aE}{w:World}
def Does(P:Program)(G:Nat→Option (List af))(β:aE)(S:ai)(w:World)(c:Sem Value)(Q:af)(T:ai):Prop:=
 ∃v w',c.aG P w=.ok v w'∧eV w w'∧(lp w w'→∃a,aC a Q v∧aL G a T.H w'∧bM β S.H w a T.H w')
def Ji(P:Program)(G:Nat→Option (List af))(β:aE)(S:ai)(w:World)(c:Sem Unit)(T:ai):Prop:=
 ∃w',c.aG P w=.ok () w'∧eV w w'∧(lp w w'→∃a,aL G a T.H w'∧bM β S.H w a T.H w')
def Does.pure{a:Sem Value}(d:aL G β S.H w)(c:Pure S T)(h:a.aG P w=.ok v w)(e:aC β Q v):Does P G β S w a Q T:=by
 refine⟨v,w,h,eV.refl w,fun _=>⟨β,e,?_,?_⟩⟩
 ·rw[c.H];exact d
 ·rw[c.H];exact bM.refl β S.H w
def cN{d:TypeDesc}(h:P.underlying t=some d)(w:World):(underlying t).aG P w=.ok d w:=zH h w
def vu{b:Bool}(h:nk P t=some b)(w:World):(isAgg t).aG P w=.ok b w:=by
 unfold nk at h;cases a:P.underlying t with
 |none=>simp[a]at h|some d=>cases d<;>simp[a]at h<;>subst h<;>simp[isAgg,cN a]
def Cw(h:ej P t=some n):∃i,P.info? t=some i∧i.size=n:=by
 unfold ej at h;cases hi:P.info? t with
 |none=>simp[hi]at h|some i=>simp[hi]at h;exact⟨i,rfl,h⟩
def g9(h:ej P t=some n)(w:World):(sizeOf t).aG P w=.ok n w:=by
 obtain⟨i,hi,rfl⟩:=Cw h;simp[sizeOf,typeInfo,hi]
def Jj(h:Q.single=true)(a:aC β Q v):v.oneCell'=true∧v.cells=#[v]:=by
 cases a<;>simp[af.single]at h<;>simp[Value.oneCell',Value.cells,bh.val]
def Jk(h:Q.row=some l)(a:aC β Q v):aJ β l v.cells.toList:=by
 unfold af.row at h;split at h
 ·cases h;obtain⟨vs,rfl,c⟩:=a.xJ;exact c
 ·split at h
  ·rename_i d;cases h;rw[(Jj d a).2];exact aJ.cons a (aJ.nil β)
  ·cases h
def PE(h:zl R=true)(a:aJ β R vs):∀v∈vs,v.oneCell'=true:=by
 induction R generalizing vs with
 |nil=>rw[a.r9];intro v a;cases a
 |cons Q R e=>
  obtain⟨v,f,rfl,h1,h2⟩:=a.cons_inv;simp only[zl]at h;cases c:Q.single with
  |false=>simp[c]at h|true=>
   simp only[c]at h;intro u d;rcases jN.1 d with rfl|d
   ·exact(Jj c h1).1
   ·exact e h h2 u d
def YA{a:af}{q:Value}(h:oF P G t a S=some (Q,T))(s:aC β a q)(e:aL G β S.H w):
 Pure S T∧(T.ok→Does P G β S w (Instr.loadAt t q) Q T):=by
 unfold oF at h;cases c:nk P t with
 |none=>simp[c]at h|some b=>
  cases b with
  |true=>
   simp only[c]at h;cases f:ej P t with
   |none=>simp[f]at h|some n=>
    simp only[f]at h;cases g:rR G a n S with
    |none=>simp[g]at h|some r=>
     obtain⟨l,z⟩:=r;simp only[g,aB,aN]at h;obtain⟨rfl,rfl⟩:=h;obtain⟨d,i⟩:=PD e s g;refine⟨d,fun ok=>?_⟩;obtain⟨p,vs,rfl,j,u,k,m⟩:=i ok;refine Does.pure e d (v:=.agg ⟨vs⟩) ?_ (aC.z4 j);have x:vs.length=n:=by rw[←j.1,u]
     have:=Fx P w p vs k (by rw[←j.1,u];exact m);rw[x]at this;simp[Instr.loadAt,Instr.sureAddr,loadVar,vu c w,g9 f w,this]
  |false=>
   simp only[c]at h;obtain⟨d,i⟩:=PC e s h;refine⟨d,fun ok=>?_⟩;obtain⟨p,v,rfl,k,y,m⟩:=i ok;refine Does.pure e d (v:=v) ?_ y;simp[Instr.loadAt,Instr.sureAddr,loadVar,vu c w,B7 P w k m]
def Data.PF{d m:Data}(h:d.lg o Q S=some (m,T)):
 Pure S T∧m.len=d.len∧(T.ok→o.v<d.len∧∀{β:aE} {v:Value} {vs:List Value},aC β Q v→aJ β d.list vs→aJ β m.list (vs.set o.v v)):=by
 cases d with
 |gen l=>
  cases o with
  |s _=>simp[Data.lg]at h|c n=>
   simp only[Data.lg]at h;cases p:Nat.blt n l.length<;>simp[p]at h;obtain⟨rfl,rfl⟩:=h;rw[iO];refine⟨Pure.refl _,by simp[Data.len],fun _=>⟨by show n<l.length;simpa using p,fun i a=>?_⟩⟩;exact a.set i n
 |ag l=>
  simp only[Data.lg,bU,aN]at h;obtain⟨j,e,rfl,rfl⟩:=h;refine⟨gi _ _,rfl,fun k=>⟨aZ (gp k),fun i a=>?_⟩⟩;cases Q<;>simp only[af.fD,reduceCtorEq]at e;have g:=i.num_inv;rw[bh.rX e]at g;subst g;simp only[Data.list,U.set]at a⊢;rw[HZ];exact a.set (aC.oS (.bQ j)) _
 |eY l=>
  simp only[Data.lg,bU,aN]at h;obtain⟨j,e,rfl,rfl⟩:=h;refine⟨gi _ _,rfl,fun k=>⟨aZ (gp k),fun i a=>?_⟩⟩;cases Q<;>simp only[af.iq,reduceCtorEq]at e;have g:=i.num_inv;rw[bh.u9 e]at g;subst g;simp only[Data.list,U.set]at a⊢;rw[HZ];exact a.set (aC.oS (.aD j)) _
 |bt l=>
  simp only[Data.lg,bU,aN]at h;obtain⟨j,e,rfl,rfl⟩:=h;refine⟨gi _ _,rfl,fun k=>⟨aZ (gp k),fun i a=>?_⟩⟩;cases Q<;>simp only[af.fE,reduceCtorEq]at e;have g:=i.num_inv;rw[bh.oN e]at g;subst g;simp only[Data.list,U.set]at a⊢;rw[HZ];exact a.set (aC.oS (.au j)) _
 |spot _ _ _=>simp[Data.lg]at h|fc _ _=>simp[Data.lg]at h|lim f l=>
  simp only[Data.lg,bU,aN]at h;obtain⟨j,e,rfl,rfl⟩:=h;refine⟨(gi _ _).trans (gi _ _),rfl,fun k=>⟨aZ (gp ((gi _ _).ok k)),fun i a=>?_⟩⟩;cases Q<;>simp only[af.fE,reduceCtorEq]at e;have g:=i.num_inv;rw[bh.oN e]at g;subst g;simp only[Data.list,U.set]at a⊢;rw[HZ];exact a.set (aC.oS (.au j)) _
def Data.YB{d c:Data}(h:d.Ez o Q S=some (c,T)):
 Pure S T∧c.len=d.len∧(T.ok→o.v<d.len∧∀{β:aE} {v:Value} {vs:List Value},aC β Q v→aJ β d.list vs→aJ β c.list (vs.set o.v v)):=by
 unfold Data.Ez at h;split at h
 ·rename_i m e;split at h
  ·rename_i a f;simp only[aB,aN]at h;obtain⟨rfl,rfl⟩:=h;refine⟨gi _ _,Pw e rfl,fun i=>?_⟩;have r:=aZ (gp i);have s:=m.row.h;have u:=Fu e;refine⟨by omega,fun{β v vs} j p=>?_⟩;rw[Jc (show(m.row.set (o.v-m.pre.length) a).n=m.row.n from rfl)];cases Q<;>simp only[af.fD,reduceCtorEq]at f;have g:=j.num_inv;rw[bh.rX f]at g;subst g;have k:=(Pu e p).set (aC.oS (.bQ a)) o.v;have q:(m.pre++(m.row.l.map af.bQ++m.post)).set o.v (.bQ a)=m.pre++((m.row.set (o.v-m.pre.length) a).l.map af.bQ++m.post):=by
    rw[List.set_append_right _ _ (by omega),List.set_append_left _ _ (by rw[lQ];omega),←HZ];rfl
   rw[←q];exact k
  ·cases h
 ·cases h
def Data.Jl{d a:Data}(h:d.set o Q S=some (a,T)):
 Pure S T∧a.len=d.len∧(T.ok→o.v<d.len∧∀{β:aE} {v:Value} {vs:List Value},aC β Q v→aJ β d.list vs→aJ β a.list (vs.set o.v v)):=by
 unfold Data.set at h;split at h
 ·rename_i r e;cases h;exact Data.PF e
 ·split at h
  ·rename_i d2 c;obtain⟨h1,h2,h3⟩:=Data.PF h;refine⟨h1,h2.trans (z5 c),fun ok=>?_⟩;obtain⟨f,g⟩:=h3 ok;exact⟨by rw[←z5 c];exact f,fun i j=>g i (Pq c j)⟩
  ·exact Data.YB h
def aJ.over{us:List Value}(h:aJ β l vs)(k:aJ β R us)(o:Nat):aJ β (aA.over l o R) (aA.over vs o us):=by
 unfold aA.over;rw[show o+R.length=o+us.length by rw[k.1]];exact((h.take o).append k).append (h.drop _)
def Cx(l:List V)(o:Nat)(R:List V)(h:o+R.length≤l.length):(aA.over l o R).length=l.length:=by simp[aA.over];omega
def Fy{a:Type}(f:V→a)(l:List V)(o:Nat)(R:List V):(aA.over l o R).map f=aA.over (l.map f) o (R.map f):=by simp[aA.over]
def xM{V:Type}:∀(R l:List V) (o:Nat),o+R.length≤l.length→rP l o R=aA.over l o R
 |[],l,o,_=>by simp[rP,aA.over]|Q::R,l,o,h=>by
  simp only[iY]at h;rw[rP,xM R _ _ (by rw[lN];omega)];unfold aA.over;have a:(l.set o Q).take (o+1)=l.take o++[Q]:=by
   rw[Wm,List.take_set_of_le (aX o),pL (by omega)];rfl
  have c:(l.set o Q).drop (o+1+R.length)=l.drop (o+1+R.length):=List.drop_set_of_lt (by omega);rw[a,c];simp[iF,Bo 1]
def Data.PG{d k Q:Data}(h:d.jy o Q S=some (k,T)):
 Pure S T∧(T.ok→o.v+Q.len≤d.len∧k.len=d.len∧∀{β:aE} {us vs:List Value},aJ β Q.list us→aJ β d.list vs→aJ β k.list (aA.over vs o.v us)):=by
 cases d with
 |gen l=>
  cases o with
  |s _=>simp[Data.jy]at h|c n=>
   cases Q<;>simp[Data.jy]at h;rename_i R;obtain⟨r,m,rfl,rfl⟩:=h;obtain⟨h1,rfl⟩:=Fo _ _ _ _ m;exact⟨Pure.refl _,fun _=>⟨h1,Cx l n R h1,fun f a=>aJ.over a f n⟩⟩
 |ag l=>
  simp only[Data.jy,bU,aN]at h;obtain⟨R,e,rfl,rfl⟩:=h;refine⟨gi _ _,fun g=>?_⟩;have i:=aZ (gp g);have j:Q.len=R.n:=(Ct e).symm;have h1:=l.h;have h2:=R.h;refine⟨by rw[j];exact i,rfl,fun f a=>?_⟩;simp only[Data.list,U.over]at a⊢;rw[xM _ _ _ (by omega),Fy];exact aJ.over a (Cu e f) _
 |eY l=>
  simp only[Data.jy,bU,aN]at h;obtain⟨R,e,rfl,rfl⟩:=h;refine⟨gi _ _,fun g=>?_⟩;have i:=aZ (gp g);have j:Q.len=R.n:=(Fp e).symm;have h1:=l.h;have h2:=R.h;refine⟨by rw[j];exact i,rfl,fun f a=>?_⟩;simp only[Data.list,U.over]at a⊢;rw[xM _ _ _ (by omega),Fy];exact aJ.over a (Fr e f) _
 |bt l=>
  simp only[Data.jy,bU,aN]at h;obtain⟨R,e,rfl,rfl⟩:=h;refine⟨gi _ _,fun g=>?_⟩;have i:=aZ (gp g);have j:Q.len=R.n:=(Fq e).symm;have h1:=l.h;have h2:=R.h;refine⟨by rw[j];exact i,rfl,fun f a=>?_⟩;simp only[Data.list,U.over]at a⊢;rw[xM _ _ _ (by omega),Fy];exact aJ.over a (Fs e f) _
 |spot _ _ _=>simp[Data.jy]at h|fc _ _=>simp[Data.jy]at h|lim _ _=>simp[Data.jy]at h
def Data.YC{d a Q:Data}(h:d.BK o Q S=some (a,T)):
 Pure S T∧(T.ok→o.v+Q.len≤d.len∧a.len=d.len∧∀{β:aE} {us vs:List Value},aJ β Q.list us→aJ β d.list vs→aJ β a.list (aA.over vs o.v us)):=by
 unfold Data.BK at h;split at h
 ·rename_i m c;split at h
  ·rename_i R e;simp only[aB,aN]at h;obtain⟨rfl,rfl⟩:=h;refine⟨gi _ _,fun f=>?_⟩;have r:=aZ (gp f);have s:=m.row.h;have u:=R.h;have x:=Fu c;have y:Q.len=R.n:=(Ct e).symm;refine⟨by omega,Pw c rfl,fun{β us vs} g i=>?_⟩;rw[Jc (show(m.row.over (o.v-m.pre.length) R).n=m.row.n from rfl)];have k:=aJ.over (Pu c i) (Cu e g) o.v;have j:aA.over (m.pre++(m.row.l.map af.bQ++m.post)) o.v (R.l.map af.bQ)=m.pre++((m.row.over (o.v-m.pre.length) R).l.map af.bQ++m.post):=by
    show _=m.pre++((rP m.row.l (o.v-m.pre.length) R.l).map af.bQ++m.post);rw[xM _ _ _ (by omega),Fy];unfold aA.over;simp only[lQ];rw[show o.v+R.l.length=m.pre.length+(o.v-m.pre.length+R.l.length) by omega];have p:o.v=m.pre.length+(o.v-m.pre.length):=by omega
    generalize o.v-m.pre.length=q at *;rw[p,List.take_append,List.take_append,List.drop_append,List.drop_append];simp only[uI,lQ];rw[qw (l:=m.pre) (by omega),aoj (l:=m.pre) (by omega),show q-m.row.l.length=0 by omega,show q+R.l.length-m.row.l.length=0 by omega];simp
   rw[←j];exact k
  ·cases h
 ·cases h
def Data.pX{d a Q:Data}(h:d.over o Q S=some (a,T)):
 Pure S T∧(T.ok→o.v+Q.len≤d.len∧a.len=d.len∧∀{β:aE} {us vs:List Value},aJ β Q.list us→aJ β d.list vs→aJ β a.list (aA.over vs o.v us)):=by
 unfold Data.over at h;split at h
 ·rename_i r e;cases h;exact Data.PG e
 ·split at h
  ·rename_i d2 c;obtain⟨h1,h3⟩:=Data.PG h;refine⟨h1,fun ok=>?_⟩;obtain⟨f,g,i⟩:=h3 ok;exact⟨by rw[←z5 c];exact f,g.trans (z5 c),fun j k=>i j (Pq c k)⟩
  ·exact Data.YC h
def Pure.tF{d:Data}(a:Pure S T)(h:T.write b d=some W):W.ok→S.ok:=by
 obtain⟨_,_,_,_,c,_⟩:=ai.z6 h;intro o;exact a.ok fun Q e=>o Q (by rw[c];exact e)
def z7{d:Data}(h:T.write b d=some W):W.ok→T.ok:=by
 obtain⟨_,_,_,_,a,_⟩:=ai.z6 h;exact fun o Q c=>o Q (by rw[a];exact c)
def Cy(d a:Data)(o n:Nat):Prop:=(∀c,fH d c→fH a c)∧∀c,fH d c→∀k,o≤k→k<o+n→gm (at' c k) true
def Cy.full{d e:Data}(h:d.full)(f:e.full)(o n:Nat):Cy d e o n:=⟨fun c a=>.of (a.tD h) f,fun c a k _ _=>(a.tD h).tu k true⟩
def Fz{d:Data}{m:uP}(h:d.mid=some m):d.full:=by cases d<;>first|(simp[Data.mid]at h;done)|(intro f l a;cases a)
def z8{d a:Data}(h:d.words=some a):d.full∧a.full:=by
 cases d<;>simp only[Data.words,reduceCtorEq]at h;refine⟨lX _,?_⟩
 repeat' split at h
 all_goals first|(cases h;done)|(cases h;intro f l c;cases c)
def PI{d a:Data}(h:d.lg o Q S=some (a,T))(c:d.full):a.full:=by
 cases d with
 |lim f l=>exact absurd rfl (c _ _)|gen l=>
  cases o<;>simp only[Data.lg,reduceCtorEq]at h;split at h
  ·injection h with h;cases h;exact lX _
  ·cases h
 |spot _ _ _=>simp[Data.lg]at h|fc _ _=>simp[Data.lg]at h|_=>
  simp only[Data.lg,bU,aN]at h;obtain⟨g,_,rfl,_⟩:=h;intro f l e;cases e
def YD{d i:Data}(h:d.set o Q S=some (i,T))(ok:T.ok):Cy d i o.v 1:=by
 unfold Data.set at h;split at h
 ·rename_i r g;cases h;by_cases a:d.full
  ·exact .full a (PI g a) _ _
  ·cases d with
   |lim f l=>
    simp only[Data.lg,bU,aN]at g;obtain⟨q,_,rfl,rfl⟩:=g;refine⟨fun c e=>e,fun c e k h1 h2=>⟨rfl,.inl ⟨e.1,fun _=>?_⟩⟩⟩;obtain rfl:k=o.v:=by omega
    rw[←e.2];exact gp ok
   |_=>exact absurd (fun f l j=>(by cases j)) a
 ·split at h
  ·rename_i d2 a;exact .full (z8 a).1 (PI h (z8 a).2) _ _
  ·unfold Data.Ez at h;split at h
   ·rename_i m p;split at h
    ·simp only[aB,aN]at h;obtain⟨rfl,_⟩:=h;exact .full (Fz p) (lX _) _ _
    ·cases h
   ·cases h
def PK{d e Q:Data}(h:d.jy o Q S=some (e,T)):d.full∧e.full:=by
 cases d with
 |gen l=>
  cases o with
  |s _=>simp[Data.jy]at h|c n=>
   cases Q<;>simp[Data.jy]at h;obtain⟨r,_,rfl,_⟩:=h;exact⟨lX _,lX _⟩
 |spot _ _ _=>simp[Data.jy]at h|fc _ _=>simp[Data.jy]at h|lim _ _=>simp[Data.jy]at h|_=>
  simp only[Data.jy,bU,aN]at h;obtain⟨g,_,rfl,_⟩:=h;exact⟨fun f l a=>(by cases a),fun f l a=>(by cases a)⟩
def FA{d a Q:Data}(h:d.over o Q S=some (a,T)):d.full∧a.full:=by
 unfold Data.over at h;split at h
 ·rename_i r c;cases h;exact PK c
 ·split at h
  ·rename_i d2 e;exact⟨(z8 e).1,(PK h).2⟩
  ·unfold Data.BK at h;split at h
   ·rename_i m f;split at h
    ·simp only[aB,aN]at h;obtain⟨rfl,_⟩:=h;exact⟨Fz f,lX _⟩
    ·cases h
   ·cases h
def FB{d a Q:Data}(h:d.over o Q S=some (a,T))(n:Nat):Cy d a o.v n:=.full (FA h).1 (FA h).2 _ _
def Cz{q r:ai}{d e:Data}{o:Nat}{a:Loc}{us:List Value}(s:aL G β S.H w)(g:Pure S q)(E:S.read b=some d)(F:q.write b e=some r)
 (h:β b=some a) (ae:o+us.length≤d.len) (I:e.len=d.len) (J:∀{vs:List Value},aJ β d.list vs→aJ β e.list (aA.over vs o us)) (h1:∀v∈us,v.oneCell'=true) (u:Cy d e o us.length):
 Ji P G β S w (storeCells (at' a.c (a.base+o)) us) r:=by
 obtain⟨ag,x,y,_,_,_⟩:=ai.z6 F;obtain⟨m,j,K⟩:=ai.sg E;rw[g.H,j]at x;injection x with f;injection f with L p;subst L p;have M:se β d a w:=by
  rcases s.blk b _ j K with⟨ah,z,O⟩|⟨_,A⟩
  ·rw[h]at z;injection z with f;subst f;exact O
  ·rw[h]at A;cases A
 obtain⟨U,B,vs,t,bu,X,Y,Z,aj,aa⟩:=M;have C:=Fw P a.c o t bu us 0 ⟨vs⟩ w X Y (by simp;omega) h1 (fun k h1 h2=>u.2 _ B k (by omega) (by omega));simp only[gd]at C;have f:at' a.c (a.base+o)=⟨a.c,o,none⟩:=by simp[at',U]
 have ak:(vs.take o++us++vs.drop (o+us.length))=aA.over vs o us:=rfl;have ab:(aA.over vs o us).length=a.room:=by rw[Cx _ _ _ (by omega),Z]
 have ad:aJ β e.list ((aA.over vs o us).take e.len):=by
  have:=J aa;have p:aA.over (vs.take d.len) o us=(aA.over vs o us).take e.len:=by
   rw[I];apply uH;intro i;simp only[aA.over,List.getElem?_append,lP,s9,fA,qx]
   repeat' split
   all_goals first|rfl|omega|(congr 1;omega)|skip
   all_goals(try simp_all)
   all_goals(try omega)
  rw[←p];exact this
 have D:=s.write j h (aA.over vs o us) ab (by omega) ad u.1;refine⟨w.setRow a.c ⟨aA.over vs o us⟩,?_,Jf w B.mine _,fun _=>⟨β,?_,?_⟩⟩
 ·rw[f];rw[C];rfl
 ·rw[y,g.H];exact D.1
 ·rw[y,g.H];exact D.2
end
end
section
variable [aR][aF]
variable{S Q:ai}{t:TypeId}{R:Value}{v:Option Value}{z l h m:Z}{d:N}
section
variable{P:Program}{G:Nat→Option (List af)}{β:aE}{w:World}
def YE{a x:af}{c:Value}(h:zm P t a x S=some Q)(D:aC β a R)(k:aC β x c)(y:aL G β S.H w):
 (Q.ok→S.ok)∧(Q.ok→Ji P G β S w (Instr.storeAt t R c) Q):=by
 unfold zm at h;split at h
 case h_2=>cases h
 rename_i b o;obtain⟨W,A,rfl⟩:=D.sd;cases f:S.read b with
 |none=>simp[f]at h|some d=>
  simp only[f]at h;cases g:ej P t with
  |none=>simp[g]at h|some n=>
   simp only[g]at h;split at h
   ·rename_i E;obtain⟨vs,rfl,i⟩:=k.xJ;split at h
    case h_2=>cases h
    rename_i p;simp only[dH]at p;have q:E.length=n:=by simpa using p.1
    split at h
    case h_2=>cases h
    rename_i F I B;obtain⟨e,r⟩:=Data.pX B;refine⟨e.tF h,fun ok=>?_⟩;obtain⟨h1,h2,h3⟩:=r (z7 h ok);have:=Cz (P:=P) (us:=vs) y e f h A (by rw[←i.1];exact h1) h2 (fun j=>h3 i j) (PE p.2 i) (FB B _);obtain⟨w',h4,s,u⟩:=this;refine⟨w',?_,s,u⟩;have J:¬(vs.length≠n):=by rw[←i.1,q];simp
    simp[Instr.storeAt,Instr.sureAddr,storeVar,g9 g w,Value.cells,J,h4]
   ·split at h
    case h_2=>cases h
    rename_i K;split at h
    case h_2=>cases h
    rename_i L;split at h
    case h_2=>cases h
    rename_i F I C;obtain⟨e,M,r⟩:=Data.Jl C;refine⟨e.tF h,fun ok=>?_⟩;obtain⟨h1,h2⟩:=r (z7 h ok);obtain⟨O,T⟩:=Jj K k;have U:∀vs:List Value,o.v<vs.length→aA.over vs o.v [c]=vs.set o.v c:=by
     intro vs V;simp only[aA.over,iY,kK];rw[List.set_eq_take_append_cons_drop,av V];simp
    have:=Cz (P:=P) (us:=[c]) (o:=o.v) y e f h A (by show o.v+1≤d.len;omega) M
     (fun{vs} j=>by rw[U vs (by rw[←j.1,Data.jB];exact h1)];exact h2 k j) (by simpa using O) (YD C (z7 h ok))
    obtain⟨w',h4,s,u⟩:=this;refine⟨w',?_,s,u⟩;have q:n=1:=by simpa using L
    simp[Instr.storeAt,Instr.sureAddr,storeVar,g9 g w,T,q,h4]
def af.vv{a:af}{v:Value}(h:a.bF=some z)(b:aC β a v):∃k,v=.int k z.v:=by
 cases a<;>simp[af.bF]at h;rename_i n;subst h;exact⟨n.k,b.num_inv⟩
def z9(h:(jS z l).cj S=some Q):Pure S Q∧(Q.ok→0≤z.v∧z.v<l.v):=by
 obtain⟨a,b⟩:=B.fU h;refine⟨a,fun ok=>?_⟩;have:=b ok;rw[jS,B.u6,Z.jV,Z.IF,dH]at this;exact⟨aZ this.1,aZ this.2⟩
def FC(c base a i b:Nat):(at' c (base+a)).add (i*b)=at' c (base+(a+i*b)):=by rw[oT,iF]
def YF{a i J:af}{K:Value}(h:zo P t a i S=some (J,Q))(u:aC β a R)(hi:aC β i K)(x:aL G β S.H w):
 Pure S Q∧(Q.ok→Does P G β S w (Instr.indexAt t R K) J Q):=by
 unfold zo at h;cases C:i.bF with
 |none=>simp[C]at h|some z=>
  simp only[C]at h;obtain⟨k,rfl⟩:=af.vv C hi;split at h
  ·rename_i n D q;cases o:ej P D with
   |none=>simp[o]at h|some r=>
    simp only[o]at h;cases e:(jS z (.c n)).cj S with
    |none=>simp[e]at h|some E=>
     simp only[e]at h;obtain⟨f,p⟩:=z9 e;have s:∀j:N,(j.add (z.toN.ij r)).v=j.v+z.v.toNat*r:=fun j=>by rw[N.gH,N.u7,Z.toN_v]
     split at h
     ·rename_i b j;obtain⟨rfl,rfl⟩:_∧_:=by simpa using h
      refine⟨f,fun ok=>?_⟩;obtain⟨h1,h2⟩:=p ok;obtain⟨y,A,rfl⟩:=u.sd;refine Does.pure x f ?_ (.ptr b _ y A);have F:z.v<(n:Int):=h2;simp[Instr.indexAt,cN q,Instr.sureAddr,asIntOf,g9 o w,h1,F,FC,s]
     ·rename_i g j;obtain⟨rfl,rfl⟩:_∧_:=by simpa using h
      refine⟨f,fun ok=>?_⟩;obtain⟨h1,h2⟩:=p ok;rw[u.Cr];refine Does.pure x f ?_ (.eE g _);have F:z.v<(n:Int):=h2;simp[Instr.indexAt,cN q,Instr.sureAddr,asIntOf,g9 o w,h1,F,Cv,s]
     ·cases h
  ·rename_i D q;cases o:ej P D with
   |none=>simp[o]at h|some r=>
    simp only[o]at h;have s:∀j:N,(j.add (z.toN.ij r)).v=j.v+z.v.toNat*r:=fun j=>by rw[N.gH,N.u7,Z.toN_v]
    split at h
    case h_4=>cases h
    case h_3=>
     rename_i b l O;split at h
     case h_2=>cases h
     rename_i I;have I:O=r:=by simpa using I
     subst I;cases e:(jS z l.toZ).cj S with
     |none=>simp[e]at h|some E=>
      simp only[e,aB,aN]at h;obtain⟨rfl,rfl⟩:=h;obtain⟨f,p⟩:=z9 e;refine⟨f,fun ok=>?_⟩;obtain⟨h1,h2⟩:=p ok;rw[N.toZ_v]at h2;obtain⟨a,L,rfl,M,B⟩:=u.Cq;rcases B with B|⟨y,A,rfl,bf⟩
      ·omega
      ·refine Does.pure x f ?_ (.ptr b _ y A);have T:(N.c 0).v=0:=rfl;simp[Instr.indexAt,cN q,asIntOf,g9 o w,h1,h2,FC,s,T,oT]
    case h_2=>
     rename_i g j l;cases e:(jS z l.toZ).cj S with
     |none=>simp[e]at h|some E=>
      simp only[e,aB,aN]at h;obtain⟨rfl,rfl⟩:=h;obtain⟨f,p⟩:=z9 e;refine⟨f,fun ok=>?_⟩;obtain⟨h1,h2⟩:=p ok;rw[N.toZ_v]at h2;obtain⟨L,rfl,M⟩:=u.Pk;refine Does.pure x f ?_ (.eE g _);simp[Instr.indexAt,cN q,asIntOf,g9 o w,h1,h2,Cv,s]
    rename_i b j l U;cases e:(jS z l.toZ).cj S with
    |none=>simp[e]at h|some E=>
     simp only[e,aB,aN]at h;obtain⟨rfl,rfl⟩:=h;obtain⟨f,p⟩:=z9 e;refine⟨f,fun ok=>?_⟩;obtain⟨h1,h2⟩:=p ok;rw[N.toZ_v]at h2;obtain⟨a,L,rfl,M,V,B⟩:=u.pW;rcases B with B|⟨y,A,rfl,bf⟩
     ·omega
     ·refine Does.pure x f ?_ (.ptr b _ y A);simp[Instr.indexAt,cN q,asIntOf,g9 o w,h1,h2,FC,s]
  ·cases h
def YG{a e:af}{f:Nat}(h:Iq P t a f=some e)(g:aC β a R)(i:aL G β S.H w):
 Does P G β S w (Instr.fieldAt t R f) e S:=by
 unfold Iq at h;split at h
 case h_2=>cases h
 rename_i fields j;rw[cg]at h;cases c:fields.toList[f]? with
 |none=>simp[c]at h|some p=>
  simp only[c]at h;have k:fields[f]? =some p:=by simpa using c
  split at h
  case h_1=>cases h
  case h_3=>cases h
  rename_i q r n;have o:¬q=0:=fun s=>r s;split at h
  ·rename_i b u;cases h;obtain⟨x,y,rfl⟩:=g.sd;refine Does.pure i (Pure.refl _) ?_ (.ptr b _ x y);simp[Instr.fieldAt,cN j,k,Instr.sureAddr,fieldPlace,g9 n w,o,oT,iF];rw[N.gH];rfl
  ·rename_i b u;cases h;rw[g.Cr];refine Does.pure i (Pure.refl _) ?_ (.eE b _);simp[Instr.fieldAt,cN j,k,Instr.sureAddr,fieldPlace,g9 n w,o,Cv];rw[N.gH];rfl
  ·cases h
def mS(β:aE)(a:Option af)(v:Option Value):Prop:=
 match a,v with
 |none,none=>True|some a,some v=>aC β a v|_,_=>False
def Aa(a:(gW l h m).cj S=some Q):Pure S Q∧(Q.ok→0≤l.v∧l.v≤h.v∧h.v≤m.v):=by
 obtain⟨b,c⟩:=B.fU a;refine⟨b,fun ok=>?_⟩;have:=c ok;rw[gW,B.u6,B.u6,Z.jV,Z.jV,Z.jV,dH,dH]at this;exact⟨aZ this.1.1,aZ this.1.2,aZ this.2⟩
def xN{a:Option af}(h:bound a d=some z)(b:mS β a v):(v=none∧z.v=(d.v:Int))∨∃k,v=some (.int k z.v):=by
 cases a with
 |none=>
  cases v with
  |none=>simp[bound]at h;subst h;exact .inl ⟨rfl,N.toZ_v d⟩|some v=>exact absurd b (by simp[mS])
 |some a=>
  cases v with
  |none=>exact absurd b (by simp[mS])|some v=>
   obtain⟨k,rfl⟩:=af.vv h b;exact .inr ⟨k,rfl⟩
def run_sliceBound{k:IntKind}{i:Int}{a:Nat}{c:BoundsCode}(h1:0≤i)(h2:i≤a):(Instr.sliceBound (.int k i) a c).aG P w=.ok i.toNat w:=by
 simp[Instr.sliceBound,asIntOf,h1,h2]
def CB{Ab:Bool}{len cap:Nat}{lo hi mx:Option Value}{l h m:Int}
 (f:(mx=none∧m=cap)∨∃k,mx=some (.int k m)) (e:(hi=none∧h=len∧mx=none)∨∃k,hi=some (.int k h)) (b:(lo=none∧l=0)∨∃k,lo=some (.int k l))
 (g:0≤l) (p:l≤h) (q:h≤m) (i:m≤cap):(Instr.sliceBounds Ab len cap lo hi mx).aG P w=.ok (l.toNat,h.toNat,m.toNat) w:=by
 have r:(h.toNat:Int)=h:=Ei (by omega);have s:(m.toNat:Int)=m:=Ei (by omega);have j:∀k c,(Instr.sliceBound (.int k m) cap c).aG P w=.ok m.toNat w:=fun k c=>run_sliceBound (by omega) i;have cm:∀k c,(Instr.sliceBound (.int k h) m.toNat c).aG P w=.ok h.toNat w:=fun k c=>run_sliceBound (by omega) (by omega);have a:∀k c,(Instr.sliceBound (.int k l) h.toNat c).aG P w=.ok l.toNat w:=fun k c=>run_sliceBound g (by omega);rcases f with⟨rfl,rfl⟩|⟨u,rfl⟩
 ·simp only[eC]at cm⊢;rcases e with⟨rfl,rfl,_⟩|⟨n,rfl⟩
  ·simp only[eC]at a⊢;rcases b with⟨rfl,rfl⟩|⟨kl,rfl⟩<;>simp[Instr.sliceBounds,a]
  ·rcases b with⟨rfl,rfl⟩|⟨kl,rfl⟩<;>simp[Instr.sliceBounds,a,cm]
 ·rcases e with⟨rfl,rfl,o⟩|⟨n,rfl⟩
  ·cases o
  ·rcases b with⟨rfl,rfl⟩|⟨kl,rfl⟩<;>simp[Instr.sliceBounds,a,cm,j]
def FD{a:Option af}(h:bound a d=some z)(b:mS β a v):(v=none∧z.v=(d.v:Int)∧(none:Option Value)=none)∨∃k,v=some (.int k z.v):=by
 rcases xN h b with⟨h1,h2⟩|h1
 ·exact .inl ⟨h1,h2,rfl⟩
 ·exact .inr h1
def mS.FE(h:mS β none v):v=none:=by cases v<;>simp[mS]at h;rfl
def mS.YH{a:af}(h:mS β (some a) v):∃u,v=some u∧aC β a u:=by
 cases v with
 |none=>simp[mS]at h|some u=>exact⟨u,rfl,h⟩
def Jm{b:Nat}{o len:N}{cap cap':Option N}{a:Option Addr}{c5:Nat}(f:c5=0∨∃e,β b=some e∧a=some (at' e.c (e.base+o.v))∧o.v+c5≤e.room)
 (n:0≤l.v) (p:l.v≤h.v) (q:h.v≤m.v) (r:m.v≤c5) (i:∀C,cap'=some C→C.v=m.v.toNat-l.v.toNat):
 aC β (.ref (.sl b (o.add l.toN) (h.toN.sub l.toN) cap')) (.slice (if m.v.toNat=l.v.toNat then a else a.map (·.add (l.v.toNat*1))) (h.v.toNat-l.v.toNat) (m.v.toNat-l.v.toNat)):=by
 have g:h.v.toNat-l.v.toNat=(h.toN.sub l.toN).v:=by rw[N.Cb,Z.toN_v,Z.toN_v]
 rw[g];refine .sl b _ _ cap' _ _ (by rw[←g];omega) i ?_;by_cases j:m.v.toNat=l.v.toNat
 ·exact .inl (by omega)
 ·right;rcases f with f|⟨e,k,rfl,bf⟩
  ·omega
  ·refine⟨e,k,?_,?_⟩
   ·rw[ak j,N.gH,Z.toN_v];simp[oT,iF]
   ·rw[N.gH,Z.toN_v];omega
def YI{a ae:af}{lo hi mx:Option af}{D F ag:Option Value}(h:xj P t a lo hi mx S=some (ae,Q))(Y:aC β a R)
 (O:mS β lo D) (I:mS β hi F) (T:mS β mx ag) (J:aL G β S.H w):
 Pure S Q∧(Q.ok→Does P G β S w (Instr.sliceAt t R D F ag) ae Q):=by
 unfold xj at h;split at h
 ·rename_i n K L;split at h
  case h_2=>cases h
  rename_i b o;split at h
  case h_1=>cases h
  case h_3=>cases h
  ·rename_i y an E;have aG:¬y=0:=fun K=>an K;obtain⟨U,ah,rfl⟩:=Y.sd;unfold zp at h;cases g:bound lo (.c 0)with
   |none=>simp[g]at h|some l=>
    cases p:bound hi (.c n)with
    |none=>simp[g,p]at h|some e=>
     simp only[g,p]at h;cases mx with
     |some _=>simp at h|none=>
      obtain rfl:=T.FE;simp only at h;cases A:S.read b with
      |none=>simp[A]at h|some d=>
       simp only[A]at h;cases aa:((o.add (.c (n*y))).le d.jx).cj S with
       |none=>simp[aa]at h|some ao=>
        simp only[aa]at h;obtain⟨aj,ap⟩:=B.fU aa;cases f:(gW l e (.c n)).cj ao with
        |none=>simp[f]at h|some W=>
         simp only[f,aB,aN]at h;obtain⟨rfl,rfl⟩:=h;obtain⟨i,u⟩:=Aa f;refine⟨aj.trans i,fun ok=>?_⟩;obtain⟨j,k,q⟩:=u ok;have aq:e.v≤(n:Int):=q;have X:=ap (i.ok ok);rw[N.jV,N.gH]at X;have X:o.v+n*y≤d.len:=by
          have ar:d.jx.v=d.len:=by cases d<;>rfl
          rw[ar]at X;exact aZ X
         obtain⟨m,au,M⟩:=ai.sg A;have av:=J.room au M ah;simp only at av;have x:=CB (P:=P) (w:=w) (Ab:=false) (len:=n) (cap:=n) (lo:=D) (hi:=F) (mx:=none) (l:=l.v) (h:=e.v) (m:=n) (.inl ⟨rfl,rfl⟩)
          (FD p I) (xN g O) j k aq (rN _)
         simp only[eC]at x;have K:e.v.toNat-l.v.toNat=(e.toN.sub l.toN).v:=by rw[N.Cb,Z.toN_v,Z.toN_v]
         have aH:l.v.toNat≤n:=by omega
         refine Does.pure J (aj.trans i) (v:=.slice (some (if n=l.v.toNat then at' U.c (U.base+o.v)else(at' U.c (U.base+o.v)).add (l.v.toNat*y))) (e.toN.sub l.toN).v (n-l.v.toNat)) ?_ ?_
         ·simp[Instr.sliceAt,cN L,Instr.sureAddr,x,g9 E w,K]
         ·refine .sl b _ _ _ _ _ (by rw[←K];omega) (by intro C r;injection r with r;subst r;rw[N.Cb,Z.toN_v];rfl) ?_;by_cases aw:n=l.v.toNat
          ·exact .inl (by omega)
          ·refine .inr ⟨U,ah,?_,?_⟩
           ·rw[ak aw,FC,N.gH,N.u7,Z.toN_v]
           ·rw[N.gH,N.u7,Z.toN_v]
            ·have:l.v.toNat*y+(n-l.v.toNat)≤n*y:=by
              have h1:(n-l.v.toNat)≤(n-l.v.toNat)*y:=En _ (by omega);have h2:l.v.toNat*y+(n-l.v.toNat)*y=n*y:=by rw[←Bp];congr 1;omega
              omega
             omega
 ·rename_i K L;split at h
  ·rename_i b o len cap;split at h
   case h_2=>cases h
   rename_i E;obtain⟨a,c5,rfl,aI,ax,ab⟩:=Y.pW;unfold BL at h;cases g:bound lo (.c 0)with
   |none=>simp[g]at h|some l=>
    cases p:bound hi len with
    |none=>simp[g,p]at h|some e=>
     simp only[g,p]at h;cases cap with
     |none=>
      cases mx with
      |some _=>simp at h|none=>
       obtain rfl:=T.FE;simp only at h;cases f:(gW l e len.toZ).cj S with
       |none=>simp[f]at h|some W=>
        simp only[f,aB,aN]at h;obtain⟨rfl,rfl⟩:=h;obtain⟨i,u⟩:=Aa f;refine⟨i,fun ok=>?_⟩;obtain⟨j,k,q⟩:=u ok;rw[N.toZ_v]at q;have x:=CB (P:=P) (w:=w) (Ab:=true) (len:=len.v) (cap:=c5) (lo:=D) (hi:=F) (mx:=none) (l:=l.v) (h:=e.v) (m:=c5) (.inl ⟨rfl,rfl⟩)
         (FD p I) (xN g O) j k (by omega) (rN _)
        have A:=Jm (β:=β) (b:=b) (o:=o) (len:=len) (cap:=none) (cap':=none) (a:=a) (c5:=c5) (l:=l) (h:=e) (m:=.s c5) ab j k (by show e.v≤(c5:Int);omega) (rN _) (fun C r=>by cases r);refine Does.pure J i ?_ A;simp[Instr.sliceAt,cN L,Instr.slice,x,g9 E w,Z.v]
     |some c=>
      have ad:=ax c rfl;cases mx with
      |none=>
       obtain rfl:=T.FE;simp only at h;cases f:(gW l e c.toZ).cj S with
       |none=>simp[f]at h|some W=>
        simp only[f,aB,aN]at h;obtain⟨rfl,rfl⟩:=h;obtain⟨i,u⟩:=Aa f;refine⟨i,fun ok=>?_⟩;obtain⟨j,k,q⟩:=u ok;rw[N.toZ_v,ad]at q;have x:=CB (P:=P) (w:=w) (Ab:=true) (len:=len.v) (cap:=c5) (lo:=D) (hi:=F) (mx:=none) (l:=l.v) (h:=e.v) (m:=c5) (.inl ⟨rfl,rfl⟩)
         (FD p I) (xN g O) j k (by omega) (rN _)
        have A:=Jm (β:=β) (b:=b) (o:=o) (len:=len) (cap:=none) (cap':=some (c.sub l.toN)) (a:=a) (c5:=c5) (l:=l) (h:=e) (m:=.s c5) ab j k (by show e.v≤(c5:Int);omega) (rN _)
         (fun C r=>by injection r with r;subst r;rw[N.Cb,Z.toN_v,ad];rfl)
        refine Does.pure J i ?_ A;simp[Instr.sliceAt,cN L,Instr.slice,x,g9 E w,Z.v]
      |some ay=>
       obtain⟨aJ,rfl,az⟩:=T.YH;simp only at h;cases M:ay.bF with
       |none=>simp[M]at h|some m=>
        cases hi with
        |none=>simp[M]at h|some aK=>
        simp only[M]at h;obtain⟨al,rfl⟩:=af.vv M az;cases f:(B.and (gW l e m) (m.le c.toZ)).cj S with
        |none=>simp[f]at h|some W=>
         simp only[f,aB,aN]at h;obtain⟨rfl,rfl⟩:=h;obtain⟨i,u⟩:=B.fU f;refine⟨i,fun ok=>?_⟩;have u:=u ok;rw[B.u6,gW,B.u6,B.u6,Z.jV,Z.jV,Z.jV,Z.jV,dH,dH,dH]at u;obtain⟨⟨⟨j,k⟩,q⟩,V⟩:=u;have j:0≤l.v:=aZ j;have k:=aZ k;have q:=aZ q;have V:=aZ V;rw[N.toZ_v,ad]at V;rcases xN p I with⟨rfl,_⟩|⟨am,rfl⟩
         ·simp[mS]at I
         ·have x:=CB (P:=P) (w:=w) (Ab:=true) (len:=len.v) (cap:=c5) (lo:=D) (hi:=some (.int am e.v)) (mx:=some (.int al m.v)) (l:=l.v) (h:=e.v) (m:=m.v) (.inr ⟨al,rfl⟩)
           (.inr ⟨am,rfl⟩) (xN g O) j k q V
          have A:=Jm (β:=β) (b:=b) (o:=o) (len:=len) (cap:=none) (cap':=some (m.toN.sub l.toN)) (a:=a) (c5:=c5) (l:=l) (h:=e) (m:=m) ab j k q V
           (fun C r=>by injection r with r;subst r;rw[N.Cb,Z.toN_v,Z.toN_v])
          refine Does.pure J i ?_ A;simp[Instr.sliceAt,cN L,Instr.slice,x,g9 E w]
  ·split at h
   ·cases h
   ·cases h
   rename_i E;obtain rfl:=T.FE;cases g:bound lo (.c 0)with
   |none=>simp[g]at h|some l=>
    cases p:bound hi (.c 0)with
    |none=>simp[g,p]at h|some e=>
     simp only[g,p]at h;cases f:(gW l e (.c 0)).cj S with
     |none=>simp[f]at h|some W=>
      simp only[f,aB,aN]at h;obtain⟨rfl,rfl⟩:=h;obtain⟨i,u⟩:=Aa f;refine⟨i,fun ok=>?_⟩;obtain⟨j,k,q⟩:=u ok;have q:e.v≤0:=q;cases Y;have x:=CB (P:=P) (w:=w) (Ab:=true) (len:=0) (cap:=0) (lo:=D) (hi:=F) (mx:=none) (l:=l.v) (h:=e.v) (m:=0) (.inl ⟨rfl,rfl⟩)
       (FD p I) (xN g O) j k (by omega) (rN _)
      have aA:l.v.toNat=0:=by omega
      have aD:e.v.toNat=0:=by omega
      refine Does.pure J i ?_ .cI;rw[aA,aD]at x;simp only[H6]at x;simp[Instr.sliceAt,cN L,Instr.slice,x,g9 E w]
  ·cases h
 ·cases h
end
end
section
variable [aR][aF]
variable{S:ai}{t:TypeId}{R:af}{T:ai}{l c:af}{V W:Value}{d:Data}{vs:List Value}{Q:TypeId}{n:N}
section
variable{P:Program}{G:Nat→Option (List af)}{β:aE}{w:World}
def tG{l:List af}(h:mG P t=some l)(β:aE):∃i z,P.info? t=some i∧i.zero=some z∧aJ β l z.cells.toList∧l.length=i.size∧z.cells.size=i.size:=by
 unfold mG at h;cases hi:P.info? t with
 |none=>simp[hi]at h|some i=>
  simp only[hi]at h;cases a:i.zero with
  |none=>simp[a]at h|some z=>
   simp only[a]at h;cases b:(xe z).row with
   |none=>simp[b]at h|some e=>
    simp only[b]at h;cases f:Nat.beq e.length i.size<;>simp[f]at h;subst h;have g:=Jk b (I5 β z);have Q:e.length=i.size:=by simpa using f
    exact⟨i,z,rfl,a,g,Q,by rw[←Q,g.1];simp⟩
def PL{l:List af}{z:Array Value}(h:aJ β l z.toList)(n:Nat):aJ β (List.replicate n l).flatten (madeCells z (n*z.size)).toList:=by
 have Q:(madeCells z (n*z.size)).toList=(List.replicate n z.toList).flatten:=by
  have f:z.size=z.toList.length:=by simp
  simp only[madeCells,Array.toList_map,Array.toList_range];apply uH;intro j;rcases qv z.size with b|b
  ·have:z.toList=[]:=Bm (by simpa using b);simp[b,this]
  ·induction n generalizing j with
   |zero=>simp|succ n e=>
    rw[aoi,Wj];rcases cv j z.size with a|a
    ·rw[iE (by simpa using a)];have:j<(n+1)*z.size:=by rw[Bp];omega
     simp[this,a,dM a]
    ·have g:aJ β (List.replicate n l).flatten ((List.replicate n z.toList).flatten):=h.replicate n;rw[ie (by simpa using a)];have:=e (j:=j-z.size);simp only[Eo]at this⊢;rw[←this];rcases cv j ((n+1)*z.size)with h1|h1
     ·have h2:j-z.size<n*z.size:=by rw[Bp]at h1;omega
      simp only[dY,Ep h1,Ep h2,ia];rw[Wn a]
     ·have h2:n*z.size≤j-z.size:=by rw[Bp]at h1;omega
      rw[di (by simpa using h1),di (by simpa using h2)]
 rw[Q];exact h.replicate n
def Jn(b:aL G β S.H w){l:List af}(t:TypeId)(a:aJ β l vs)(e:oK w.heap.size):
 aL G (β.put S.H.length ⟨w.heap.size,0,vs.length⟩) (S.new (.gen l)).2.H (w.alloc (.cells ⟨vs⟩ t))∧
 bM β S.H w (β.put S.H.length ⟨w.heap.size,0,vs.length⟩) (S.new (.gen l)).2.H (w.alloc (.cells ⟨vs⟩ t)):=
 b.new (.gen l) vs t (by simp[Data.len,a.1]) (by simp only[Data.len,Data.list];rw[a.1,Wo];exact a) (.of e (lX l))
def YJ{C:eK}(k:C.dB=G)(h:BV C t S=some (R,T))(b:aL G β S.H w):
 (T.ok→S.ok)∧Does C.P G β S w (Instr.alloc t true (.tuple #[])) R T:=by
 unfold BV at h;cases a:mG C.P t with
 |none=>simp[a]at h|some l=>
  simp only[a,aB,aN]at h;obtain⟨rfl,rfl⟩:=h;obtain⟨i,z,hi,e,f,m,o⟩:=tG a β;refine⟨fun g=>g,?_⟩;refine⟨.pointer (some (at' w.heap.size 0)),w.alloc (.cells z.cells t),?_,vr _ _,fun j=>⟨_,?_,Jn b t f (xK j)⟩⟩
  ·simp[Instr.alloc,zeroValue,typeInfo,hi,e,newVar,newRow,at']
  ·exact .ptr _ _ _ (aE.fJ ..)
def YK{b:af}{v:Value}(h:BW R S=some (b,T))(e:aC β R v)(f:aL G β S.H w):
 (T.ok→S.ok)∧Does P G β S w (Instr.box t v) b T:=by
 unfold BW at h;cases a:R.row with
 |none=>simp[a]at h|some l=>
  simp only[a,aB,aN]at h;obtain⟨rfl,rfl⟩:=h;have g:=Jk a e;refine⟨fun i=>i,?_⟩;refine⟨.pointer (some (at' w.heap.size 0)),w.alloc (.cells v.cells t),?_,vr _ _,fun j=>⟨_,?_,Jn f t g (xK j)⟩⟩
  ·simp[Instr.box,newVar,newRow,at']
  ·exact .ptr _ _ _ (aE.fJ ..)
def PM(h:xk P Q n=some d)(β:aE):∃i z,P.info? Q=some i∧i.zero=some z∧d.len=n.v*i.size∧aJ β d.list (madeCells z.cells (n.v*i.size)).toList:=by
 cases n with
 |c n=>
  simp only[xk]at h;cases a:mG P Q with
  |none=>simp[a]at h|some l=>
   simp only[a,aB]at h;subst h;obtain⟨i,z,hi,e,f,g,q⟩:=tG a β;refine⟨i,z,hi,e,?_,?_⟩
   ·simp[Data.len,g,N.v]
   ·have:=PL f n;rw[q]at this;exact this
 |s n=>
  simp only[xk]at h;split at h
  case h_2=>cases h
  rename_i C a;obtain⟨i,z,hi,e,f,g,q⟩:=tG a β;split at h
  case h_2=>cases h
  rename_i k y;split at h
  ·cases h
  rename_i b;rw[nu]at b;have b:y=0:=by simpa using b
  subst b;have r:i.size=1:=by simpa using g.symm
  obtain⟨v,vs,A,m,o⟩:=f.cons_inv;have o:=o.r9;subst o;have m:=m.num_inv;have B:z.cells=#[v]:=by
   apply jO;exact A
  refine⟨i,z,hi,e,?_,?_⟩
  ·rw[r];cases k<;>simp at h<;>subst h<;>simp[Data.len,N.v,U.zero]
  ·rw[r,B,w8,toList_madeCells_one,m];cases k<;>simp at h<;>subst h<;>refine⟨by simp[Data.list,N.v,U.zero],fun j R u x p=>?_⟩<;>
    simp only[Data.list,U.zero,dY,mz,N.v]at x p<;>split at p<;>simp_all<;>subst x p<;>first|exact .num (.bQ 0#8)|exact .num (.aD 0#32)|exact .num (.au 0#64)
def PN(b:aL G β S.H w)(t:TypeId)(a:aJ β d.list vs)(e:oK w.heap.size)(f:d.full):
 aL G (β.put S.H.length ⟨w.heap.size,0,vs.length⟩) (S.new d).2.H (w.alloc (.cells ⟨vs⟩ t))∧
 bM β S.H w (β.put S.H.length ⟨w.heap.size,0,vs.length⟩) (S.new d).2.H (w.alloc (.cells ⟨vs⟩ t)):=by
 have Q:d.len=vs.length:=by rw[←Data.jB,a.1]
 exact b.new d vs t (by omega) (by rw[Q,Wo];exact a) (.of e f)
def Jo(P:Program)(w:World)(t Q:TypeId)(i:TypeInfo)(z:Value)(a:P.underlying t=some (.slice Q))(hi:P.info? Q=some i)(j:i.zero=some z)
 (kl k:IntKind) (l c:Int) (m:0≤l) (o:l≤c) (p:(i.bytes:Int)*c≤281474976710656) (q:c≤9223372036854775807):
 (Instr.makeSlice t (.int kl l) (.int k c)).aG P w=.ok (.slice (some ⟨w.heap.size,0,none⟩) l.toNat c.toNat) (w.alloc (.cells (madeCells z.cells (c.toNat*i.size)) Q)):=by
 have b:IntKind.i64.wrap l=l:=by rw[IntKind.wrap_i64];omega
 have FF:IntKind.i64.wrap c=c:=by rw[IntKind.wrap_i64];omega
 have dI:¬c<0:=by omega
 have e:¬(281474976710656<(i.bytes:Int)*c):=by omega
 have f:¬l<0:=by omega
 have g:¬c<l:=by omega
 by_cases h:c.toNat*i.size=0
 ·simp[Instr.makeSlice,zH a,asInt,asIntOf,typeInfo,hi,sizeOf,b,FF,dI,e,f,g,h,newRow,madeCells,Array.range_zero']
 ·simp[Instr.makeSlice,zH a,asInt,asIntOf,typeInfo,hi,sizeOf,zeroValue,j,b,FF,dI,e,f,g,h,newRow,madeCells]
def YL{P:Program}(h:xk P Q n=some d):d.full:=by
 unfold xk at h
 repeat' split at h
 all_goals first|(cases h;done)|(cases h;intro f l Q;cases Q)
def PO(h:tg P t l c S=some (R,T))(E:aC β l V)(F:aC β c W):
 ∃e d n g,Pure S e∧T=(e.new d).2∧R=.ref (.sl e.H.length (.c 0) n (some g))∧(T.ok→∃vs Q,d.full∧(∀o,aJ o d.list vs)∧(∀w:World,(Instr.makeSlice t V W).aG P w=.ok (.slice (some (at' w.heap.size 0)) n.v g.v) (w.alloc (.cells ⟨vs⟩ Q)))∧n.v≤g.v∧g.v≤vs.length):=by
 unfold tg at h;split at h
 case h_2=>cases h
 rename_i Q I;cases hi:P.info? Q with
 |none=>simp[hi]at h|some i=>
  simp only[hi]at h;split at h
  ·cases h
  rename_i s;cases j:l.bF with
  |none=>simp[j]at h|some jX=>
   cases p:c.bF with
   |none=>simp[j,p]at h|some a=>
    simp only[j,p]at h;obtain⟨kl,rfl⟩:=af.vv j E;obtain⟨J,rfl⟩:=af.vv p F;cases q:(gW jX a (.c 1099511627776)).cj S with
    |none=>simp[q]at h|some K=>
     simp only[q]at h;obtain⟨L,M⟩:=Aa q;cases r:(a.toN.ij i.bytes).fits.cj K with
     |none=>simp[r]at h|some e=>
      simp only[r]at h;obtain⟨u,O⟩:=B.fU r;cases f:xk P Q a.toN with
      |none=>simp[f]at h|some d=>
       simp only[f,aB,aN]at h;obtain⟨rfl,rfl⟩:=h;have U:=L.trans u;refine⟨e,d,jX.toN,a.toN,U,rfl,rfl,fun ok=>?_⟩;have x:e.ok:=ok;obtain⟨X,y,A⟩:=M (u.ok x);have k:=O x;rw[N.fits,N.jV,N.u7,Z.toN_v]at k;have k:=aZ k;simp only[N.v]at k;have A:a.v≤1099511627776:=A;obtain⟨Y,z,b,C,aa,ab⟩:=PM f β;rw[hi]at b;injection b with b;subst b;have ad:(a.v.toNat:Int)=a.v:=Ei (by omega);have ae:(i.bytes:Int)*a.v≤281474976710656:=by
        have:(i.bytes:Int)*a.v=((a.v.toNat*i.bytes:Nat):Int):=by
         rw[gU];push_cast;rw[ad]
        omega
       rw[Z.toN_v]at ab aa;have ag:i.size≠0:=by intro Q;rw[Q]at s;cases s
       refine⟨(madeCells z.cells (a.v.toNat*i.size)).toList,Q,YL f,fun o=>?_,fun w=>?_,?_,?_⟩
       ·obtain⟨Y,ah,b,m,_,D⟩:=PM f o;rw[hi]at b;injection b with b;subst b;rw[C]at m;injection m with m;subst m;rw[Z.toN_v]at D;exact D
       ·rw[Z.toN_v,Z.toN_v];exact Jo P w t Q i z I hi C kl J jX.v a.v X y ae (by omega)
       ·rw[Z.toN_v,Z.toN_v];exact aok y
       ·rw[Z.toN_v,Eo,size_madeCells];exact En _ (by omega)
def YM(h:tg P t l c S=some (R,T))(i:aC β l V)(j:aC β c W)(k:aL G β S.H w):
 (T.ok→S.ok)∧(T.ok→Does P G β S w (Instr.makeSlice t V W) R T):=by
 obtain⟨f,d,n,a,b,rfl,rfl,m⟩:=PO h i j;refine⟨b.ok,fun ok=>?_⟩;obtain⟨vs,Q,o,h1,h2,h3,h4⟩:=m ok;have p:aL G β f.H w:=by rw[b.H];exact k
 refine⟨_,_,h2 w,vr _ _,fun q=>?_⟩;obtain⟨r,g⟩:=PN (S:=f) p (d:=d) Q (h1 β) (xK q) o;refine⟨_,?_,r,by rw[b.H]at g⊢;exact g⟩;exact .sl _ (.c 0) n (some a) (some (at' w.heap.size 0)) a.v h3 (fun C e=>by injection e with e;subst e;rfl)
  (.inr ⟨_,aE.fJ ..,rfl,by show(0:Nat)+a.v≤vs.length;omega⟩)
def PP:∀{l:List af},EB l=true→∀R∈l,R=.num (.int .u64 (.c 0))
 |[],_,R,a=>by cases a
 |e::r,h,R,a=>by
  unfold EB at h
  repeat' split at h
  all_goals(try(cases h;done))
  rename_i b;rw[nu]at b;simp only[eT]at b;subst b;rcases jN.1 a with rfl|a
  ·rfl
  ·exact PP h R a
def Jp(q n:Nat)(a:0<q)(v:Value):madeCells (⟨List.replicate q v⟩:Array Value) n=⟨List.replicate n v⟩:=by
 apply Array.ext
 ·rw[size_madeCells];simp
 ·intro i h1 h2;have b:i%q<q:=qu _ a;simp[madeCells,getElem!_def,b]
def YN{β:aE}(n:Nat):aJ β (Data.bt (U.zero 64 n)).list (List.replicate n (.int .u64 0)):=by
 refine⟨by rw[Data.jB,nh];rfl,fun i R v e b=>?_⟩;have a:((List.replicate n 0#64).map af.au)[i]? =some R:=e;rw[aol,mz]at a;rw[mz]at b;split at a
 ·rename_i hi;rw[av hi]at b;injection a with a;injection b with b;subst a b;exact .num (.au 0#64)
 ·cases a
def YO(h:EC P t l c S=some (R,T))(F:aC β l V)(I:aC β c W)(J:aL G β S.H w):
 (T.ok→S.ok)∧(T.ok→Does P G β S w (Instr.makeSlice t V W) R T):=by
 unfold EC at h;split at h
 case h_2=>cases h
 rename_i Q K;cases hi:P.info? Q with
 |none=>simp[hi]at h|some i=>
  simp only[hi]at h;split at h
  ·cases h
  rename_i z L;split at h
  ·cases h
  rename_i r;rw[dH]at r;obtain⟨M,k⟩:=r;have k:0<i.size:=by simpa using k
  cases e:l.bF with
  |none=>simp[e]at h|some jX=>
   cases m:c.bF with
   |none=>simp[e,m]at h|some a=>
    simp only[e,m]at h;obtain⟨kl,rfl⟩:=af.vv e F;obtain⟨O,rfl⟩:=af.vv m I;cases o:(gW jX a (.c 1099511627776)).cj S with
    |none=>simp[o]at h|some X=>
     simp only[o]at h;obtain⟨Y,aa⟩:=Aa o;cases p:(a.toN.ij i.bytes).fits.cj X with
     |none=>simp[p]at h|some b=>
      simp only[p,aB,aN]at h;obtain⟨rfl,rfl⟩:=h;obtain⟨s,ab⟩:=B.fU p;have q:=Y.trans s;refine⟨fun ok=>q.ok ok,fun ok=>?_⟩;have u:b.ok:=ok;obtain⟨ad,x,y⟩:=aa (s.ok u);have f:=ab u;rw[N.fits,N.jV,N.u7,Z.toN_v]at f;have f:=aZ f;simp only[N.v]at f;have y:a.v≤1099511627776:=y;obtain⟨aq,A,g,ae,ag,ar,ah⟩:=tG L β;rw[hi]at g;injection g with g;subst g;have aj:A.cells=⟨List.replicate i.size (.int .u64 0)⟩:=by
       apply jO;refine uH fun j=>?_;rw[mz];split
       ·rename_i au;obtain⟨v,ak,C⟩:=ag.get (i:=j) (bW (by omega));rw[ak];have:=PP M _ (Wp (by omega:j<z.length));rw[this]at C;rw[C.num_inv];rfl
       ·rw[di (by rw[Eo,ah];omega)]
      have al:(a.v.toNat:Int)=a.v:=Ei (by omega);have am:(i.bytes:Int)*a.v≤281474976710656:=by
       have:(i.bytes:Int)*a.v=((a.v.toNat*i.bytes:Nat):Int):=by
        rw[gU];push_cast;rw[al]
       omega
      have D:=Jo P w t Q i A K hi ae kl O jX.v a.v ad x am (by omega);rw[aj,Jp _ _ k]at D;have an:aL G β b.H w:=by rw[q.H];exact J
      refine⟨_,_,D,vr _ _,fun ao=>?_⟩;obtain⟨ap,E⟩:=PN (S:=b) an (d:=.bt (U.zero 64 (a.v.toNat*i.size))) Q (YN _) (xK ao) (fun _ _ h=>by cases h);rw[Z.toN_v];refine⟨_,?_,ap,by rw[q.H]at E⊢;exact E⟩;have:=aC.sm (β:=β.put b.H.length ⟨w.heap.size,0,(List.replicate (a.v.toNat*i.size) (Value.int .u64 0)).length⟩) b.H.length jX.toN i.size (some (at' w.heap.size 0)) a.v.toNat (by rw[Z.toN_v];exact aok x) (.inr ⟨_,aE.fJ ..,rfl,by simp⟩);rw[Z.toN_v]at this;exact this
def YP(h:BP P t l c S=some (R,T))(a:aC β l V)(b:aC β c W)(e:aL G β S.H w):
 (T.ok→S.ok)∧(T.ok→Does P G β S w (Instr.makeSlice t V W) R T):=by
 unfold BP at h;split at h
 ·rename_i r f;cases h;exact YM f a b e
 ·exact YO h a b e
end
end
section
variable [aR][aF]
variable{n:N}{S T:ai}{o:N}{R:List ah}{x:af}{b:Nat}{Q:Loc}{l:N}
section
variable{P:Program}{G:Nat→Option (List af)}{β:aE}{w:World}
def Data.PR{d e:Data}(h:d.kN o n S=some (e,T)):
 Pure S T∧(T.ok→o.v+n.v≤d.len∧e.len=n.v∧e.list=(d.list.drop o.v).take n.v):=by
 cases d with
 |gen l=>
  cases o with
  |s _=>simp[Data.kN]at h|c o=>
   cases n with
   |s _=>simp[Data.kN]at h|c n=>
    simp only[Data.kN,bU,aN]at h;obtain⟨r,f,rfl,rfl⟩:=h;obtain⟨h1,rfl⟩:=Cs _ _ _ _ f;exact⟨Pure.refl _,fun _=>⟨h1,by simp[Data.len,N.v];omega,rfl⟩⟩
 |ag l=>
  simp only[Data.kN,aB,aN]at h;obtain⟨rfl,rfl⟩:=h;refine⟨gi _ _,fun ok=>?_⟩;have a:=aZ (gp ok);exact⟨a,rfl,by simp[Data.list,U.BA a,Wq,Wr]⟩
 |eY l=>
  simp only[Data.kN,aB,aN]at h;obtain⟨rfl,rfl⟩:=h;refine⟨gi _ _,fun ok=>?_⟩;have a:=aZ (gp ok);exact⟨a,rfl,by simp[Data.list,U.BA a,Wq,Wr]⟩
 |bt l=>
  simp only[Data.kN,aB,aN]at h;obtain⟨rfl,rfl⟩:=h;refine⟨gi _ _,fun ok=>?_⟩;have a:=aZ (gp ok);exact⟨a,rfl,by simp[Data.list,U.BA a,Wq,Wr]⟩
 |spot _ _ _=>simp[Data.kN]at h|fc _ _=>simp[Data.kN]at h|lim _ _=>simp[Data.kN]at h
def Data.YQ{d c:Data}(h:d.qA o n S=some (c,T)):
 Pure S T∧(T.ok→o.v+n.v≤d.len∧c.len=n.v∧∀(β:aE) vs,aJ β ((d.list.drop o.v).take n.v) vs→aJ β c.list vs):=by
 unfold Data.qA at h;split at h
 ·rename_i m e;simp only[aB,aN]at h;obtain⟨rfl,rfl⟩:=h;refine⟨gi _ _,fun ok=>?_⟩;have p:=aZ (gp ok);have q:=m.row.h;have r:=Fu e;refine⟨by omega,rfl,fun β vs f=>?_⟩;have j:(m.row.sub (o.v-m.pre.length) n.v).l=(m.row.l.drop (o.v-m.pre.length)).take n.v:=U.BA (by omega)
  show aJ β ((m.row.sub (o.v-m.pre.length) n.v).l.map .bQ) vs;rw[j];refine⟨?_,fun i x v g k=>?_⟩
  ·rw[←f.1,lQ,qx,qx,Eh,Eh,Data.jB];omega
  ·rw[dY,bU]at g;obtain⟨s,a,rfl⟩:=g;rw[lP]at a;split at a
   ·rename_i hi;rw[s9]at a;obtain⟨z,h3,h4⟩:=Pv e a;refine h4 β v (f.2 i z v ?_ k);rw[lP,av hi,s9,Data.qH (Fz e),show o.v+i=m.pre.length+(o.v-m.pre.length+i) by omega];exact h3
   ·cases a
 ·cases h
def YR{d a:Data}(h:d.kN o n S=some (a,T)):d.full:=by
 cases d<;>first|(simp[Data.kN]at h;done)|(intro f l c;cases c)
def Jq{d a:Data}(h:d.sub o n S=some (a,T)):d.full:=by
 unfold Data.sub at h;split at h
 ·rename_i r c;cases h;exact YR c
 ·split at h
  ·rename_i d2 e;exact(z8 e).1
  ·unfold Data.qA at h;split at h
   ·rename_i m f;exact Fz f
   ·cases h
def PS{d a:Data}(h:d.kN o n S=some (a,T)):a.full:=by
 cases d<;>simp only[Data.kN]at h
 case gen l=>
  cases o<;>cases n<;>simp at h;obtain⟨e,_,rfl,_⟩:=h;exact lX _
 all_goals first|(cases h;done)|(simp only[aB,aN]at h;obtain⟨rfl,_⟩:=h;exact fun f l c=>(by cases c))
def YS{d a:Data}(h:d.sub o n S=some (a,T)):a.full:=by
 unfold Data.sub at h;split at h
 ·rename_i r c;cases h;exact PS c
 ·split at h
  ·exact PS h
  ·unfold Data.qA at h;split at h
   ·simp only[aB,aN]at h;obtain⟨rfl,_⟩:=h;exact fun f l e=>(by cases e)
   ·cases h
def YT{a:Data}(h:lm x n S=some (a,T)):a.full:=by
 unfold lm at h;split at h
 ·split at h
  ·exact YS h
  ·cases h
 ·simp only[aB,aN]at h;obtain⟨rfl,_⟩:=h;exact lX _
 ·split at h
  ·simp only[aB,aN]at h;obtain⟨rfl,_⟩:=h;exact lX _
  ·cases h
 ·cases h
def Data.vw{d f:Data}(h:d.sub o n S=some (f,T)):
 Pure S T∧(T.ok→o.v+n.v≤d.len∧f.len=n.v∧∀(β:aE) vs,aJ β ((d.list.drop o.v).take n.v) vs→aJ β f.list vs):=by
 unfold Data.sub at h;split at h
 ·rename_i r m;cases h;obtain⟨h1,h2⟩:=Data.PR m;refine⟨h1,fun ok=>?_⟩;obtain⟨k,g,j⟩:=h2 ok;exact⟨k,g,fun β vs c=>by rw[j];exact c⟩
 ·split at h
  ·rename_i d2 e;obtain⟨h1,h2⟩:=Data.PR h;refine⟨h1,fun ok=>?_⟩;obtain⟨k,g,j⟩:=h2 ok;have p:=z5 e;refine⟨by omega,g,fun β vs c=>?_⟩;rw[j];refine⟨?_,fun i x v a q=>?_⟩
   ·rw[←c.1,qx,qx,Eh,Eh,Data.jB,Data.jB,p]
   ·rw[lP]at a;split at a
    ·rename_i hi;rw[s9,Data.qH (z8 e).2]at a;obtain⟨s,h3,h4⟩:=Ja e a;refine h4 β v (c.2 i s v ?_ q);rw[lP,av hi,s9,Data.qH (z8 e).1];exact h3
    ·cases a
  ·exact Data.YQ h
def FG{d:Data}{m:Mode}(s:aL G β R w)(t:R[b]? =some ⟨d,m⟩)(h:m.alive)(i:β b=some Q){o n:Nat}(C:o+n≤d.len)(y:d.full):
 ∃vs:List Value,vs.length=n∧aJ β ((d.list.drop o).take n) vs∧(∀(j:Nat) v,vs[j]? =some v→w.cell? ((at' Q.c (Q.base+o)).add j)=some v)∧∀j,j<n→gm ((at' Q.c (Q.base+o)).add j) false:=by
 refine⟨(List.range n).map fun j=>(w.cell? (at' Q.c (Q.base+(o+j)))).getD undef,by simp,⟨?_,?_⟩,?_,fun j a=>?_⟩
 ·simp[Data.jB];omega
 ·intro j x v k e;rcases cv j n with a|a
  ·simp only[lP,a,gT,s9,Data.qH y]at k;rcases s.blk b _ t h with⟨z,f,p⟩|⟨_,g⟩
   ·rw[i]at f;injection f with q;subst q;obtain⟨u,r,A,_⟩:=p.cell h k;simp[a,r]at e;subst e;exact A
   ·rw[i]at g;cases g
  ·rw[di (by simpa using a)]at e;cases e
 ·intro j v e;rcases cv j n with a|a
  ·have k:d.at (o+j)=some (d.list[o+j]'(by rw[Data.jB];omega)):=by rw[←Data.qH y];simp
   rcases s.blk b _ t h with⟨z,f,p⟩|⟨_,g⟩
   ·rw[i]at f;injection f with q;subst q;obtain⟨u,r,_⟩:=p.cell h k;simp[a,r]at e;rw[oT,iF,r,e]
   ·rw[i]at g;cases g
  ·rw[di (by simpa using a)]at e;cases e
 ·have k:d.at (o+j)=some (d.list[o+j]'(by rw[Data.jB];omega)):=by rw[←Data.qH y];simp
  rcases s.blk b _ t h with⟨z,f,p⟩|⟨_,g⟩
  ·rw[i]at f;injection f with q;subst q;obtain⟨u,r,_,B⟩:=p.cell h k;rw[oT,iF];exact B
  ·rw[i]at g;cases g
def PT{r:Value}{p:Data}(h:lm x n S=some (p,T))(f:aC β x r)(g:jx x=some l)(t:n.v≤l.v)(B:aL G β S.H w):
 Pure S T∧(T.ok→p.len=n.v∧∃vs:List Value,vs.length=n.v∧aJ β p.list vs∧
  ∀w':World,(∀a,w'.cell? a=w.cell? a)→(Builtin.firstCells 1 n.v r).aG P w'=.ok ⟨vs⟩ w'):=by
 unfold lm at h;split at h
 ·rename_i b o _ _;cases q:S.read b with
  |none=>simp[q]at h|some d=>
   simp only[q]at h;obtain⟨C,D⟩:=Data.vw h;refine⟨C,fun ok=>?_⟩;obtain⟨h1,h2,h3⟩:=D ok;obtain⟨a,V,rfl,W,X,u⟩:=f.pW;obtain⟨m,E,F⟩:=ai.sg q;simp only[jx,aB]at g;subst g;refine⟨h2,?_⟩;rcases u with u|⟨Q,I,rfl,bf⟩
   ·have e:n.v=0:=by omega
    refine⟨[],by simp[e],?_,fun w' _=>?_⟩
    ·exact h3 _ _ (by rw[e];exact aJ.nil β)
    ·rw[e];cases a with
     |none=>exact xL P w' 1 0 _ _|some a=>exact vt P w' 1 0 a _ _ [] (by simp) (fun j v i=>by simp at i) (fun j J=>absurd J (ox _))
   ·obtain⟨vs,y,K,L,gI⟩:=FG B E F I h1 (Jq h);exact⟨vs,y,h3 _ _ K,fun w' M=>vt P w' 1 n.v _ _ _ vs (by omega) (fun j v i=>by rw[M];exact L j v i) (by rw[y];exact gI)⟩
 ·obtain⟨rfl,rfl⟩:_∧_:=by simpa using h
  simp only[jx,aB]at g;subst g;have e:n.v=0:=by simpa[N.v]using t
  cases f;refine⟨Pure.refl _,fun _=>⟨by simp[Data.len,e],[],by simp[e],aJ.nil β,fun w' _=>?_⟩⟩;rw[e];exact xL P w' 1 0 _ _
 ·rename_i A;cases n with
  |s _=>simp at h|c n=>
   simp only[aB,aN]at h;obtain⟨rfl,rfl⟩:=h;simp only[jx,aB]at g;subst g;cases f;have Y:n≤A.data.toList.length:=by simpa[N.v]using t
   refine⟨Pure.refl _,fun _=>⟨by simp only[Data.len,N.v,lQ,qx];omega,(A.data.toList.take n).map (fun b=>.int .u8 b.toNat),by simp only[lQ,qx,N.v];omega,⟨by simp[Data.list],?_⟩,?_⟩⟩
   ·intro j x v f i;simp only[Data.list,dY,bU]at f i;obtain⟨O,U,rfl⟩:=f;obtain⟨z,k,rfl⟩:=i;rw[U]at k;injection k with k;subst k;exact .num (.int .u8 (.c O.toNat))
   ·intro w' _;simp only[Builtin.firstCells,Sem.fT,N.v];congr 1;apply jO;simp[ByteArray.data_extract]
 ·cases h
def Jr{d:Data}{vs:List Value}(h:d.zq=true)(a:aJ β d.list vs):∀v∈vs,v.oneCell'=true:=by
 cases d with
 |gen l=>exact PE h a|ag l=>
  intro v c;obtain⟨i,hi⟩:=Of c;have e:i<(Data.ag l).list.length:=by rw[a.1];exact(dX.1 hi).1
  have:=a.2 i _ v (bW e) hi;simp only[Data.list,Og]at this;rw[this.num_inv];rfl
 |eY l=>
  intro v c;obtain⟨i,hi⟩:=Of c;have e:i<(Data.eY l).list.length:=by rw[a.1];exact(dX.1 hi).1
  have:=a.2 i _ v (bW e) hi;simp only[Data.list,Og]at this;rw[this.num_inv];rfl
 |bt l=>
  intro v c;obtain⟨i,hi⟩:=Of c;have e:i<(Data.bt l).list.length:=by rw[a.1];exact(dX.1 hi).1
  have:=a.2 i _ v (bW e) hi;simp only[Data.list,Og]at this;rw[this.num_inv];rfl
 |spot _ _ _=>simp[Data.zq]at h|fc _ _=>simp[Data.zq]at h|lim _ _=>simp[Data.zq]at h
def vz{v:Value}(h:jx x=some l)(c:aC β x v)(w:World):(Builtin.lenOf v).aG P w=.ok l.v w:=by
 unfold jx at h;split at h
 ·cases h;obtain⟨a,d,rfl,_⟩:=c.pW;simp[Builtin.lenOf]
 ·cases h;cases c;simp[Builtin.lenOf,N.v]
 ·cases h;cases c;simp[Builtin.lenOf,N.v]
 ·cases h
def Data.FH{d x r:Data}(h:d.app x=some r):r.len=d.len+x.len∧∀{β:aE} {vs us:List Value},aJ β d.list vs→aJ β x.list us→aJ β r.list (vs++us):=by
 cases d with
 |gen l=>
  cases x with
  |gen g=>simp[Data.app]at h;subst h;exact⟨by simp[Data.len],fun c f=>c.append f⟩|ag g=>
   simp[Data.app]at h;obtain⟨a,e,rfl⟩:=h;exact⟨by simp[Data.len,U.app,U.of,tE e],fun c f=>by simp only[Data.list,U.app,U.of,Bq]at *;exact(I8 e c).append f⟩
  |eY g=>
   simp[Data.app]at h;obtain⟨a,e,rfl⟩:=h;exact⟨by simp[Data.len,U.app,U.of,tE e],fun c f=>by simp only[Data.list,U.app,U.of,Bq]at *;exact(Po e c).append f⟩
  |bt g=>
   simp[Data.app]at h;obtain⟨a,e,rfl⟩:=h;exact⟨by simp[Data.len,U.app,U.of,tE e],fun c f=>by simp only[Data.list,U.app,U.of,Bq]at *;exact(Pp e c).append f⟩
  |spot _ _ _=>simp[Data.app]at h|fc _ _=>simp[Data.app]at h|lim _ _=>simp[Data.app]at h
 |ag l=>
  simp only[Data.app,bU]at h;obtain⟨a,e,rfl⟩:=h;exact⟨by simp[Data.len,U.app,Ct e],fun c f=>by simp only[Data.list,U.app,Bq]at c⊢;exact c.append (Cu e f)⟩
 |eY l=>
  simp only[Data.app,bU]at h;obtain⟨a,e,rfl⟩:=h;exact⟨by simp[Data.len,U.app,Fp e],fun c f=>by simp only[Data.list,U.app,Bq]at c⊢;exact c.append (Fr e f)⟩
 |bt l=>
  simp only[Data.app,bU]at h;obtain⟨a,e,rfl⟩:=h;exact⟨by simp[Data.len,U.app,Fq e],fun c f=>by simp only[Data.list,U.app,Bq]at c⊢;exact c.append (Fs e f)⟩
 |spot _ _ _=>simp[Data.app]at h|lim _ _=>simp[Data.app]at h|fc l t=>
  cases x with
  |gen g=>
   simp[Data.app]at h;subst h;exact⟨by simp[Data.len];omega,fun c f=>by simp only[Data.list,za]at c⊢;rw[←za];exact c.append f⟩
  |_=>simp[Data.app]at h
def Data.pY{d x r:Data}(h:d.app x=some r):d.full∧r.full:=by
 cases d<;>cases x<;>simp[Data.app]at h<;>(try subst h)<;>(try obtain⟨a,_,rfl⟩:=h)<;>exact⟨fun f l c=>(by cases c),fun f l c=>(by cases c)⟩
def aL.PU(f:aL G β R w){d:Data}(t:d.len=0):aL G β (R++[⟨d,.own⟩]) w∧bM β R w β (R++[⟨d,.own⟩]) w:=by
 have g:=f.Je;have i:∀(b:Nat) k,(R++[⟨d,.own⟩])[b]? =some k→(b<R.length∧R[b]? =some k)∨(b=R.length∧k=⟨d,.own⟩):=by
  intro b k a;rcases w6 b R.length with h|h|h
  ·rw[iE h]at a;exact .inl ⟨h,a⟩
  ·subst h;simp at a;exact .inr ⟨rfl,a.symm⟩
  ·rw[ie (by omega),di (by simp;omega)]at a;cases a
 refine⟨⟨?_,?_,?_,f.dB,?_⟩,⟨aE.le_refl β,by simp,rfl,rfl,rfl,aX _,fun _ _ _=>bL.refl _ _,?_,fun _ _=>rfl⟩⟩
 ·intro b k a m;rcases i b k a with⟨h,a⟩|⟨rfl,rfl⟩
  ·exact f.blk b k a m
  ·exact .inr ⟨t,g⟩
 ·intro b r k s Q u v a p j m e q;rcases i b k a with⟨h,a⟩|⟨rfl,rfl⟩
  ·rcases i r s p with⟨z,p⟩|⟨rfl,rfl⟩
   ·exact f.dO b r k s Q u v a p j m e q
   ·rw[g]at q;cases q
  ·rw[g]at e;cases e
 ·intro b Q e;have:=f.fW b Q e;simp;omega
 ·intro b k Q a j e;rcases i b k a with⟨h,a⟩|⟨rfl,rfl⟩
  ·exact f.apart b k Q a j e
  ·rw[g]at e;cases e
 ·intro c A ⟨b,k,Q,a,j,e,y⟩;rcases i b k a with⟨h,a⟩|⟨rfl,rfl⟩
  ·exact⟨b,k,Q,a,j,e,y⟩
  ·rw[g]at e;cases e
def aL.move(C:aL G β R w){d g:Data}(D:R[b]? =some ⟨d,.own⟩)(p:β b=some Q)(t:List Value)
 (W:t.length=Q.room) (X:g.len≤Q.room) (Y:aJ β g.list (t.take g.len)) (Z:∀c,fH d c→fH g c) (E:Data):
 aL G (β.put R.length Q) (R.set b ⟨E,.bn⟩++[⟨g,.own⟩]) (w.setRow Q.c ⟨t⟩)∧bM β R w (β.put R.length Q) (R.set b ⟨E,.bn⟩++[⟨g,.own⟩]) (w.setRow Q.c ⟨t⟩):=by
 obtain⟨h1,h2⟩:=C.write D p t W X Y Z;have I:b<R.length:=by
  rcases cv b R.length with h|h
  ·exact h
  ·simp[di h]at D
 have y:=aE.Fv (L:=Q) C.Je;have u:(R.set b ⟨g,.own⟩)[b]? =some ⟨g,.own⟩:=by simp[I]
 have q:∀(x:Nat) k,(R.set b ⟨E,.bn⟩++[⟨g,.own⟩])[x]? =some k→k.mode.alive→(x<R.length∧x≠b∧(R.set b ⟨g,.own⟩)[x]? =some k)∨(x=R.length∧k=⟨g,.own⟩):=by
  intro x k a i;rcases w6 x R.length with h|h|h
  ·rw[iE (by simpa using h)]at a;by_cases f:x=b
   ·subst f;rw[pL I]at a;injection a with a;subst a;exact absurd rfl i
   ·rw[mw (fB f)]at a;exact .inl ⟨h,f,by rw[mw (fB f)];exact a⟩
  ·subst h;rw[ie (by simp)]at a;simp at a;exact .inr ⟨rfl,a.symm⟩
  ·rw[ie (by simp;omega),di (by simp;omega)]at a;cases a
 refine⟨⟨?_,?_,?_,h1.dB,?_⟩,⟨y,by simp,h2.os,h2.tape,h2.output,h2.size,h2.kept,?_,fun b D=>aE.gX (by omega)⟩⟩
 ·intro x k a i;rcases q x k a i with⟨F,z,a⟩|⟨rfl,rfl⟩
  ·rcases h1.blk x k a i with⟨j,e,H⟩|⟨aa,ab⟩
   ·exact .inl ⟨j,y x j e,H.mono y (aX _) (bL.refl _ _)⟩
   ·exact .inr ⟨aa,by rw[aE.gX (by omega)];exact ab⟩
  ·rcases h1.blk b _ u (eu rfl)with⟨j,e,H⟩|⟨_,J⟩
   ·rw[p]at e;injection e with f;subst f;exact .inl ⟨Q,aE.fJ ..,H.mono y (aX _) (bL.refl _ _)⟩
   ·rw[p]at J;cases J
 ·intro x A k B K M O a r m i v s;rcases q x k a (eu m)with⟨F,z,a⟩|⟨rfl,rfl⟩
  ·rw[aE.gX (by omega)]at v;rcases q A B r i with⟨ad,U,r⟩|⟨rfl,rfl⟩
   ·rw[aE.gX (by omega)]at s;exact h1.dO x A k B K M O a r m i v s
   ·rw[aE.fJ]at s;injection s with f;subst f;exact h1.dO x b k _ K Q z a u m (eu rfl) v p
  ·rw[aE.fJ]at v;injection v with f;subst f;rcases q A B r i with⟨ad,U,r⟩|⟨rfl,rfl⟩
   ·rw[aE.gX (by omega)]at s;exact h1.dO b A _ B Q M (fB U) u r rfl i p s
   ·exact absurd rfl O
 ·intro x j e;simp only[fA,lN,iY,kK];by_cases f:x=R.length
  ·omega
  ·rw[aE.gX f]at e;have:=C.fW x j e;omega
 ·intro x k j a m e;rcases q x k a (eu m)with⟨F,z,a⟩|⟨rfl,rfl⟩
  ·rw[aE.gX (by omega)]at e;exact h1.apart x k j a m e
  ·rw[aE.fJ]at e;injection e with f;subst f;exact h1.apart b _ Q u rfl p
 ·intro c ae ⟨x,k,j,a,m,e,V⟩;refine h2.own c ae ?_;rcases q x k a (eu m)with⟨F,z,a⟩|⟨rfl,rfl⟩
  ·rw[aE.gX (by omega)]at e;exact⟨x,k,j,a,m,e,V⟩
  ·rw[aE.fJ]at e;injection e with f;subst f;exact⟨b,_,Q,u,rfl,p,V⟩
def bM.kill(b:Nat)(d:Data):bM β R w β (R.set b ⟨d,.bn⟩) w:=by
 refine⟨aE.le_refl β,by simp,rfl,rfl,rfl,aX _,fun _ _ _=>bL.refl _ _,?_,fun _ _=>rfl⟩;intro c j ⟨x,k,Q,a,e,g,i⟩;by_cases f:x=b
 ·subst f;rcases cv x R.length with h|h
  ·rw[pL h]at a;injection a with a;subst a;cases e
  ·rw[di (by simpa using h)]at a;cases a
 ·rw[mw (fB f)]at a;exact⟨x,k,Q,a,e,g,i⟩
end
end
section
variable [aR][aF]
variable{t u ty Q:TypeId}{i:TypeInfo}{d:TypeDesc}{R:Value}{base:Option Addr}{sLen sCap n:Nat}{vs:List Value}{z:Value}
section
variable{P:Program}{G:Nat→Option (List af)}{β:aE}{w:World}
def xO(d:TypeDesc):Prop:=(∃Q,d=.slice Q)∨d=.string
def Ac{w':World}(b:P.underlying t=some (.slice Q))(c:P.underlying u=some d)(k:xO d)
 (hi:P.info? Q=some i) (e:i.size=1) (f:∀w,(Builtin.lenOf R).aG P w=.ok n w) (g:(Builtin.firstCells 1 n R).aG P w=.ok ⟨vs⟩ w) (h:sLen+n≤sCap)
 (j:(base=none∧w'=w)∨∃a,base=some a∧(storeCells (a.add sLen) vs).aG P w=.ok () w'):
 (Builtin.append_ #[t,u] ty #[.slice base sLen sCap,R]).aG P w=.ok (.slice base (sLen+n) sCap) w':=by
 rcases j with⟨rfl,rfl⟩|⟨a,rfl,j⟩<;>rcases k with⟨l,rfl⟩|rfl
 ·simp[Builtin.append_,cN b,cN c,sizeOf,typeInfo,hi,e,f,g,h]
 ·simp[Builtin.append_,cN b,cN c,sizeOf,typeInfo,hi,e,f,g,h]
 ·simp[Builtin.append_,cN b,cN c,sizeOf,typeInfo,hi,e,f,g,h,j]
 ·simp[Builtin.append_,cN b,cN c,sizeOf,typeInfo,hi,e,f,g,h,j]
def PV{olds:List Value}(a:P.underlying t=some (.slice Q))(b:P.underlying u=some d)(o:xO d)
 (hi:P.info? Q=some i) (c:i.zero=some z) (e:i.size=1) (f:∀w,(Builtin.lenOf R).aG P w=.ok n w) (g:(Builtin.firstCells 1 n R).aG P w.drew=.ok ⟨vs⟩ w.drew)
 (h:(Builtin.firstCells 1 sLen (.slice base sLen sCap)).aG P w.drew=.ok ⟨olds⟩ w.drew) (p:sCap<sLen+n) (q:(sLen+n)*i.bytes≤1099511627776) (j:i.bytes≠0):
 (Builtin.append_ #[t,u] ty #[.slice base sLen sCap,R]).aG P w=
  .ok (.slice (some (at' w.heap.size 0)) (sLen+n) (grownCap w (sLen+n) sCap Q))
   (w.drew.alloc (.cells ⟨olds++vs++(Builtin.zeroCells z.cells (grownCap w (sLen+n) sCap Q-(sLen+n))).toList⟩ Q)):=by
 have k:¬(sLen+n≤sCap):=by omega
 have r:sLen+n≤(sLen+n)*i.bytes:=En _ (by omega);have l:¬(9223372036854775807<((sLen:Int)+(n:Int))):=by omega
 have m:¬(281474976710656<Builtin.nextslicecap (sLen+n) sCap*i.bytes):=by have:=growslice_fits p (bytes:=i.bytes) (by omega);omega
 rcases o with⟨s,rfl⟩|rfl
 ·simp[Builtin.append_,cN a,cN b,sizeOf,typeInfo,zeroValue,hi,c,e,f,k,l,m,j,Question.forced,g,h,newRow,grownCap,at'];congr 2;apply jO;simp
 ·simp[Builtin.append_,cN a,cN b,sizeOf,typeInfo,zeroValue,hi,c,e,f,k,l,m,j,Question.forced,g,h,newRow,grownCap,at'];congr 2;apply jO;simp
def Js(w:World)(a old:Nat)(Q:TypeId):a≤grownCap w a old Q:=by
 simp[grownCap,Question.cut]
def YU{bc:Value}{S y aM:ai}{b:Nat}{o l:N}{aV:Option N}{n:N}{an:Data}{r:af}{us:List Value}
 (aw:P.underlying t=some (.slice Q)) (ax:P.underlying u=some d) (ay:xO d) (hi:P.info? Q=some i) (bs:i.zero=some z) (az:i.size=1) (bt:z.cells.size=1) (bv:i.bytes≠0)
 (aD:∀w,(Builtin.lenOf R).aG P w=.ok n.v w) (aH:∀w':World,(∀a,w'.cell? a=w.cell? a)→(Builtin.firstCells 1 n.v R).aG P w'=.ok ⟨us⟩ w') (aO:us.length=n.v) (Z:an.len=n.v) (ao:aJ β an.list us)
 (aW:∀v∈us,v.oneCell'=true) (bw:aC β (.ref (.sl b o l aV)) bc) (bx:aL G β S.H w) (aa:Pure S y) (bz:(l.v+n.v)*i.bytes≤1099511627776) (h:zu b o l aV n an y=some (r,aM)):
 (aM.ok→y.ok)∧(aM.ok→Does P G β S w (Builtin.append_ #[t,u] ty #[bc,R]) r aM):=by
 obtain⟨a,A,rfl,b4,aY,O⟩:=bw.pW;have ab:aL G β y.H w:=by rw[aa.H];exact bx
 have b5:aJ β [] []:=aJ.nil β;unfold zu at h;have a0:∀(g p:Data) (m:Mode) (T:List ah),y.H[b]? =some ⟨g,m⟩→g.full∧p.full→m.alive→o.v+l.v≤g.len→(∀vs:List Value,aJ β ((g.list.drop o.v).take l.v) vs→aJ β p.list (vs++us))→p.len=l.v+n.v→A<l.v+n.v→
  aL G β T w→bM β y.H w β T w→T.length=y.H.length→∀k:N,k.v=l.v+n.v→
  ∃v w',(Builtin.append_ #[t,u] ty #[.slice a l.v A,R]).aG P w=.ok v w'∧eV w w'∧(lp w w'→∃s,aC s (.ref (.sl y.H.length (.c 0) k none)) v∧aL G s (T++[⟨p,.own⟩]) w'∧bM β y.H w s (T++[⟨p,.own⟩]) w'):=by
  intro g p m T M bd ap bA a1 bg aj bB bC bh k bi;have hold:∃ad:List Value,ad.length=l.v∧aJ β ((g.list.drop o.v).take l.v) ad∧(Builtin.firstCells 1 l.v (.slice a l.v A)).aG P w.drew=.ok ⟨ad⟩ w.drew:=by
   rcases O with O|⟨e,K,rfl,bf⟩
   ·have aP:l.v=0:=by omega
    refine⟨[],by simp[aP],by rw[aP];exact aJ.nil β,?_⟩;rw[aP];cases a with
    |none=>exact xL P _ 1 0 _ _|some a=>exact vt P _ 1 0 a _ _ [] (by simp) (fun j v f=>by simp at f) (fun j bD=>absurd bD (ox _))
   ·obtain⟨vs,bj,bE,bF,gI⟩:=FG ab M ap K bA bd.1;exact⟨vs,bj,bE,vt P _ 1 l.v _ _ _ vs (by omega) (fun j v f=>bF j v f) (by rw[bj];exact gI)⟩
  obtain⟨ad,aI,a2,bG⟩:=hold;have bH:=PV (P:=P) (w:=w) (base:=a) (ty:=ty) aw ax ay hi bs az aD (aH w.drew (fun a=>rfl)) bG aj bz bv;have aQ:=bB.drew.new p (ad++us++(Builtin.zeroCells z.cells (grownCap w (l.v+n.v) A Q-(l.v+n.v))).toList) Q (by simp;omega) (by
   rw[bg,za,←za,HS (by simp;omega),qw (by simp;omega)];exact a1 ad a2)
  refine⟨_,_,bH,Jh _ _,fun F=>?_⟩;have aQ:=aQ (fH.of (Jg F) bd.2);refine⟨_,?_,aQ.1,(bC.trans (bM.drew β T w)).trans aQ.2⟩;have bI:=Js w (l.v+n.v) A Q;have bJ:(Builtin.zeroCells z.cells (grownCap w (l.v+n.v) A Q-(l.v+n.v))).toList.length=grownCap w (l.v+n.v) A Q-(l.v+n.v):=by simp[Builtin.zeroCells,bt]
  have f:=aC.sl (β:=β.put T.length ⟨w.heap.size,0,(ad++us++(Builtin.zeroCells z.cells (grownCap w (l.v+n.v) A Q-(l.v+n.v))).toList).length⟩) T.length (.c 0) k none (some (at' w.heap.size 0)) (grownCap w (l.v+n.v) A Q)
   (by rw[bi];exact bI) (fun C aK=>by cases aK) (.inr ⟨_,aE.fJ ..,rfl,by
    show 0+grownCap w (l.v+n.v) A Q≤(ad++us++_).length;rw[fA,fA,bJ,aI,aO];omega⟩)
  rw[bi,bh]at f;rw[←bh]at f⊢;exact f
 cases aV with
 |some C=>
  simp only at h;split at h
  case h_2=>
   split at h
   ·cases h
   ·rename_i b6 a3;obtain⟨bK,a4⟩:=B.oM a3;split at h
    ·cases h
    rename_i aS bL;obtain⟨bk,bN⟩:=B.fU bL;have ak:=bK.trans bk;cases I:aS.read b with
    |none=>simp[I]at h|some g=>
     simp only[I]at h;obtain⟨m,M,ap⟩:=ai.sg I;have aT:C.v=A:=aY _ rfl;split at h
     case h_2=>cases h
     rename_i p q U;have a5:=U;obtain⟨x,U⟩:=Data.pX U;cases J:q.write b p with
     |none=>simp[J]at h|some bO=>
      simp only[J,aB,aN]at h;obtain⟨rfl,rfl⟩:=h;refine⟨fun ok=>ak.ok (x.tF J ok),fun ok=>?_⟩;have bl:=x.tF J ok;have ae:=a4 (bk.ok bl);rw[N.jV,N.gH]at ae;have ae:l.v+n.v≤C.v:=aZ ae;have aU:=bN bl;rw[N.jV]at aU;have aU:1≤C.v:=aZ aU;obtain⟨h1,h2,h3⟩:=U (z7 J ok);have bP:aL G β aS.H w:=by rw[ak.H];exact ab
      rcases O with O|⟨e,K,rfl,bf⟩
      ·omega
      ·have aq:=Cz (P:=P) (us:=us) (o:=(o.add l).v) bP x I J K (by rw[N.gH,aO];rw[N.gH,Z]at h1;omega) h2 (fun f=>h3 ao f) aW;obtain⟨w',V,W,D⟩:=aq (FB a5 _);subst aT;refine⟨.slice (some (at' e.c (e.base+o.v))) (l.v+n.v) C.v,w',?_,W,fun F=>?_⟩
       ·refine Ac (ty:=ty) aw ax ay hi az aD (aH w (fun _=>rfl)) ae (.inr ⟨_,rfl,?_⟩);rw[oT,←V,N.gH,iF]
       ·obtain⟨s,D,X⟩:=D F;have f:=aC.sl (β:=s) b o (l.add n) (some C) (some (at' e.c (e.base+o.v))) C.v (by rw[N.gH];exact ae) (fun bQ al=>by injection al with al;subst al;rfl) (.inr ⟨e,X.le b e K,rfl,bf⟩);rw[N.gH]at f;exact⟨s,f,D,by rw[←aa.H,←ak.H];exact X⟩
   ·rename_i aS a3;obtain⟨ak,a4⟩:=B.oM a3;cases I:aS.read b with
    |none=>simp[I]at h|some g=>
     simp only[I]at h;obtain⟨m,M,ap⟩:=ai.sg I;have aT:C.v=A:=aY _ rfl;split at h
     case h_2=>cases h
     rename_i a6 q Y;have a7:=Y;obtain⟨x,Y⟩:=Data.vw Y;cases E:a6.app an with
     |none=>simp[E]at h|some p=>
      simp only[E,aB,aN]at h;obtain⟨rfl,rfl⟩:=h;refine⟨fun o=>ak.ok (x.ok o),fun ok=>?_⟩;have aj:=a4 (x.ok ok);rw[N.jV,N.gH]at aj;have aj:¬l.v+n.v≤C.v:=of_decide_eq_false aj;obtain⟨h1,h2,h3⟩:=Y ok;obtain⟨ag,ar⟩:=Data.FH E;obtain⟨v,w',V,W,D⟩:=a0 g p m y.H (by rw[←ak.H];exact M) ⟨Jq a7,(Data.pY E).2⟩ ap h1 (fun vs f=>ar (h3 _ _ f) ao) (by rw[ag,h2,Z]) (by omega) ab (bM.refl ..) rfl (l.add n) (N.gH ..);refine⟨v,w',V,W,fun F=>?_⟩;obtain⟨s,bR,bS,bT⟩:=D F;have aI:q.H=y.H:=by rw[x.H,ak.H]
      refine⟨s,by rw[aI];exact bR,?_,?_⟩
      ·show aL G s (q.H++_) w';rw[aI];exact bS
      ·show bM β S.H w s (q.H++_) w';rw[aI,←aa.H];exact bT
  rename_i C am au;cases I:y.read b with
  |none=>simp[I]at h|some g=>
   simp only[I]at h;obtain⟨m,M,ap⟩:=ai.sg I;have aT:C=A:=aY _ rfl;subst aT;split at h
   ·rename_i L;simp only[dH]at L;have ae:am+au≤C:=by simpa using L.1
    have aU:1≤C:=by simpa using L.2
    split at h
    case h_2=>cases h
    rename_i p q U;have a5:=U;obtain⟨x,U⟩:=Data.pX U;cases J:q.write b p with
    |none=>simp[J]at h|some bO=>
     simp only[J,aB,aN]at h;obtain⟨rfl,rfl⟩:=h;refine⟨x.tF J,fun ok=>?_⟩;obtain⟨h1,h2,h3⟩:=U (z7 J ok);rcases O with O|⟨e,K,rfl,bf⟩
     ·omega
     ·rw[N.gH]at h1;have aq:=Cz (P:=P) (us:=us) (o:=(o.add (.c am)).v) ab x I J K (by rw[N.gH,aO];simp only[N.v]at h1 Z⊢;omega) h2 (fun f=>h3 ao f) aW;obtain⟨w',V,W,D⟩:=aq (FB a5 _);refine⟨.slice (some (at' e.c (e.base+o.v))) (am+au) C,w',?_,W,fun F=>?_⟩
      ·refine Ac (ty:=ty) aw ax ay hi az aD (aH w (fun _=>rfl)) ae (.inr ⟨_,rfl,?_⟩);rw[oT,←V,N.gH,iF]
      ·obtain⟨s,D,X⟩:=D F;exact⟨s,.sl b o (.c (am+au)) (some (.c C)) _ C ae (fun bQ al=>by injection al with al;subst al;rfl) (.inr ⟨e,X.le b e K,rfl,bf⟩),D,by rw[←aa.H];exact X⟩
   ·split at h
    ·cases h
    rename_i L;have aj:C<am+au:=by
     rcases cv C (am+au)with h|h
     ·exact h
     ·rw[Oh h]at L;cases L
    split at h
    case h_2=>cases h
    rename_i a6 q Y;have a7:=Y;obtain⟨x,Y⟩:=Data.vw Y;cases E:a6.app an with
    |none=>simp[E]at h|some p=>
     simp only[E,aB,aN]at h;obtain⟨rfl,rfl⟩:=h;refine⟨fun o=>x.ok o,fun ok=>?_⟩;obtain⟨h1,h2,h3⟩:=Y ok;obtain⟨ag,ar⟩:=Data.FH E;obtain⟨v,w',V,W,D⟩:=a0 g p m y.H M ⟨Jq a7,(Data.pY E).2⟩ ap h1 (fun vs f=>ar (h3 _ _ f) ao) (by rw[ag,h2,Z]) aj ab (bM.refl ..) rfl (.c (am+au)) rfl;refine⟨v,w',V,W,fun F=>?_⟩;obtain⟨s,D,X,a8⟩:=D F;refine⟨s,by rw[x.H];exact D,?_,?_⟩
     ·show aL G s (q.H++_) w';rw[x.H];exact X
     ·show bM β S.H w s (q.H++_) w';rw[x.H,←aa.H];exact a8
 |none=>
  simp only[cg]at h;split at h
  case h_2=>cases h
  rename_i g m M;cases m<;>simp only[reduceCtorEq]at h;split at h
  case h_2=>cases h
  rename_i q a9;obtain⟨x,f⟩:=B.fU a9;cases E:g.app an with
  |none=>simp[E]at h|some p=>
   simp only[E,aB,aN]at h;obtain⟨rfl,rfl⟩:=h;refine⟨fun o=>x.ok o,fun ok=>?_⟩;have f:=f ok;rw[B.u6,N.Ca,N.Ca,dH]at f;have ba:o.v=0:=by simpa[N.v]using f.1
   have bb:l.v=g.len:=by
    have:=f.2;cases l<;>simpa[N.v]using this
   obtain⟨ag,ar⟩:=Data.FH E;have av:(q.kill b).H=y.H.set b ⟨.gen [],.bn⟩:=by simp[ai.kill,iO,x.H]
   have bm:aL G β (y.H.set b ⟨.gen [],.bn⟩) w:=ab.kill b _;by_cases L:l.v+n.v≤A
   ·rcases O with O|⟨e,K,rfl,bf⟩
    ·
      have b7:n.v=0:=by omega
      have aP:l.v=0:=by omega
      have bo:=bm.PU (d:=p) (by rw[ag,Z];omega);have bU:us=[]:=Bm (by omega);refine⟨.slice a (l.v+n.v) A,w,?_,eV.refl w,fun _=>⟨β,?_,?_,?_⟩⟩
      ·refine Ac (ty:=ty) aw ax ay hi az aD (aH w (fun _=>rfl)) L ?_;cases a with
       |none=>exact .inl ⟨rfl,rfl⟩|some a=>exact .inr ⟨a,rfl,by rw[bU];rfl⟩
      ·have:=aC.sl (β:=β) q.H.length (.c 0) (l.add n) none a A (by rw[N.gH];exact L) (fun C aK=>by cases aK) (.inl O);rw[N.gH]at this;exact this
      ·show aL G β ((q.kill b).H++_) w;rw[av];exact bo.1
      ·show bM β S.H w β ((q.kill b).H++_) w;rw[av,←aa.H];exact(bM.kill b _).trans bo.2
    ·have bV:se β g e w:=by
      rcases ab.blk b _ M (eu rfl)with⟨b8,bp,bW⟩|⟨_,F⟩
      ·rw[K]at bp;injection bp with Q;subst Q;exact bW
      ·rw[K]at F;cases F
     obtain⟨bX,bq,vs,bY,bu,bZ,b0,b1,bg,b2⟩:=bV;have aq:=Fw P e.c (o.v+l.v) bY bu us 0 ⟨vs⟩ w bZ b0 (by simp;omega) aW (fun k _ _=>(bq.tD (Data.pY E).1).tu k true);simp only[gd]at aq;have a1:aJ β p.list ((aA.over vs (o.v+l.v) us).take p.len):=by
      have:=ar b2 ao;have a2:vs.take g.len++us=(aA.over vs (o.v+l.v) us).take p.len:=by
       rw[ag,Z,ba,cM,bb];have b9:(vs.take g.len++us).length=g.len+n.v:=by rw[fA,qx,aO];omega
       show _=(vs.take g.len++us++vs.drop (g.len+us.length)).take (g.len+n.v);rw[HS (by omega)];exact(qw (by omega)).symm
      rw[←a2];exact this
     have br:=ab.move M K (aA.over vs (o.v+l.v) us) (by rw[Cx _ _ _ (by omega),b1]) (by rw[ag,Z];omega) a1 (fun c a9=>fH.of (a9.tD (Data.pY E).1) (Data.pY E).2) (.gen []);refine⟨.slice (some (at' e.c (e.base+o.v))) (l.v+n.v) A,w.setRow e.c ⟨aA.over vs (o.v+l.v) us⟩,?_,Jf w bq.mine _,fun _=>⟨β.put y.H.length e,?_,?_,?_⟩⟩
     ·refine Ac (ty:=ty) aw ax ay hi az aD (aH w (fun _=>rfl)) L (.inr ⟨_,rfl,?_⟩);rw[oT,show at' e.c (e.base+o.v+l.v)=⟨e.c,o.v+l.v,none⟩ by simp[at',bX]];exact aq
     ·have b3:q.H.length=y.H.length:=by rw[x.H]
      have:=aC.sl (β:=β.put y.H.length e) q.H.length (.c 0) (l.add n) none (some (at' e.c (e.base+o.v))) A (by rw[N.gH];exact L) (fun C aK=>by cases aK)
       (.inr ⟨e,by rw[b3];exact aE.fJ ..,by rw[ba];rfl,by show 0+A≤e.room;omega⟩)
      rw[N.gH]at this;exact this
     ·show aL G _ ((q.kill b).H++_) _;rw[av];exact br.1
     ·show bM β S.H w _ ((q.kill b).H++_) _;rw[av,←aa.H];exact br.2
   ·obtain⟨v,w',V,W,D⟩:=a0 g p .own (y.H.set b ⟨.gen [],.bn⟩) M (Data.pY E) (by intro h;cases h) (by omega)
     (fun vs f=>ar (by rw[ba,bb,H7,qw (by rw[Data.jB];exact aX _)]at f;exact f) ao) (by rw[ag,Z,bb]) (by omega) bm (bM.kill b _) (by simp) (l.add n) (N.gH ..)
    refine⟨v,w',V,W,fun F=>?_⟩;obtain⟨s,D,X,a8⟩:=D F;refine⟨s,by rw[x.H];exact D,?_,?_⟩
    ·show aL G s ((q.kill b).H++_) w';rw[av];exact X
    ·show bM β S.H w s ((q.kill b).H++_) w';rw[av,←aa.H];exact a8
end
end
section
variable [aR][aF]
section
variable{P:Program}{G:Nat→Option (List af)}{β:aE}{w:World}
def FI{t a:TypeId}{b:Nat}(h:zn P t=some (a,b)):P.underlying t=some (.slice a)∧ej P a=some b:=by
 unfold zn at h;split at h
 ·rename_i e c;simp only[bU,aN]at h;obtain⟨f,d,rfl,rfl⟩:=h;exact⟨c,d⟩
 ·cases h
def PW{d:Option TypeDesc}(h:EA d=true):∃a,d=some a∧xO a:=by
 unfold EA at h;split at h
 ·exact⟨_,rfl,.inl ⟨_,rfl⟩⟩
 ·exact⟨_,rfl,.inr rfl⟩
 ·cases h
def YV{al:List TypeId}{am:List af}{vs:List Value}{ty:TypeId}{K:af}{S k:ai}(h:BM P al am S=some (K,k))(ax:aJ β am vs)(L:aL G β S.H w):
 (k.ok→S.ok)∧(k.ok→Does P G β S w (Builtin.append_ ⟨al⟩ ty ⟨vs⟩) K k):=by
 unfold BM at h;split at h
 case h_2=>cases h
 rename_i t u;split at h
 case h_2=>cases h
 rename_i x ay;obtain⟨M,az⟩:=FI ay;split at h
 case h_1=>cases h
 case h_2=>cases h
 rename_i i aT hi aA;obtain⟨aD,z,m,an,_,_,X⟩:=tG aA β;rw[hi]at m;injection m with m;subst m;obtain⟨aD,m,D⟩:=Cw az;rw[hi]at m;injection m with m;subst m;rw[D]at X;split at h
 ·cases h
 rename_i E;have E:i.bytes≠0:=by intro x;rw[x]at E;cases E
 split at h
 ·cases h
 rename_i y;obtain⟨d,y,O⟩:=PW y;split at h
 case h_2=>cases h
 rename_i aU a;obtain⟨aV,aW,rfl,ao,aG⟩:=ax.cons_inv;obtain⟨aH,aY,rfl,F,aI⟩:=aG.cons_inv;have:=aI.r9;subst this;cases o:jx a with
 |none=>simp[o]at h|some n=>
  simp only[o]at h;cases Q:lm a n S with
  |none=>simp[Q]at h|some r=>
   obtain⟨Y,R⟩:=r;simp only[Q]at h;have aK:=YT Q;obtain⟨p,T⟩:=PT (P:=P) Q F o (aX _) L;split at h
   ·cases h
   rename_i aM;split at h
   ·
     cases ao;have ap:∀e:ai,(n.ij i.bytes).fits.cj R=some e→some (af.sl e.H.length (.c 0) n none,(e.new Y).2)=some (K,k)→(k.ok→S.ok)∧(k.ok→Does P G β S w (Builtin.append_ ⟨[t,u]⟩ ty ⟨[Value.slice none 0 0,aH]⟩) K k):=by
      intro e f h;simp only[aB,aN]at h;obtain⟨rfl,rfl⟩:=h;obtain⟨j,Z⟩:=B.fU f;refine⟨fun aq=>p.ok (j.ok aq),fun ok=>?_⟩;have g:=Z ok;rw[N.fits,N.jV,N.u7]at g;have g:=aZ g;have g:n.v*i.bytes≤1099511627776:=g;obtain⟨U,us,V,I,A⟩:=T (j.ok ok);have ar:aL G β e.H w:=by rw[j.H,p.H];exact L
      by_cases au:n.v=0
      ·have aa:=ar.PU (d:=Y) (by omega);have a0:us=[]:=Bm (by omega);refine⟨.slice none 0 0,w,?_,eV.refl w,fun _=>⟨β,?_,aa.1,?_⟩⟩
       ·have:=Ac (P:=P) (w:=w) (ty:=ty) (base:=none) (sLen:=0) (sCap:=0) (w':=w) M y O hi D (fun w=>vz o F w) (A w (fun _=>rfl)) (by omega) (.inl ⟨rfl,rfl⟩);rw[au]at this;exact this
       ·have:=aC.sl (β:=β) e.H.length (.c 0) n none none 0 (by omega) (fun C ab=>by cases ab) (.inl rfl);rw[au]at this;exact this
       ·rw[j.H,p.H]at aa;show bM β S.H w β (e.H++_) w;rw[j.H,p.H];exact aa.2
      ·have av:=PV (P:=P) (w:=w) (base:=none) (sLen:=0) (sCap:=0) (olds:=[]) (ty:=ty) M y O hi an D (fun w=>vz o F w) (A w.drew (fun _=>rfl)) (xL P _ 1 0 _ _) (by omega) (by rw[cM];exact g) E;simp only[cM,jP]at av;have aO:=Js w n.v 0 x;have aP:(Builtin.zeroCells z.cells (grownCap w n.v 0 x-n.v)).toList.length=grownCap w n.v 0 x-n.v:=by simp[Builtin.zeroCells,X]
       have W:=ar.drew.new Y (us++(Builtin.zeroCells z.cells (grownCap w n.v 0 x-n.v)).toList) x (by rw[fA];omega)
        (by rw[U,←V,Ws];exact I)
       refine⟨_,_,av,Jh _ _,fun o=>?_⟩;have W:=W (fH.of (Jg o) aK);refine⟨_,?_,W.1,?_⟩
       ·exact .sl e.H.length (.c 0) n none (some (at' w.heap.size 0)) (grownCap w n.v 0 x) aO (fun C ab=>by cases ab) (.inr ⟨_,aE.fJ ..,rfl,by
         show 0+_≤(us++_).length;rw[fA,aP];omega⟩)
       ·show bM β S.H w _ (e.H++_) _;have:=(bM.drew β e.H w).trans W.2;rw[j.H,p.H]at this⊢;exact this
     cases n with
     |c J=>
      cases J with
      |zero=>
       simp only[aB,aN]at h;obtain⟨rfl,rfl⟩:=h;refine⟨p.ok,fun ok=>?_⟩;obtain⟨U,us,V,I,A⟩:=T ok;refine Does.pure L p (v:=.slice none 0 0) ?_ .cI;exact Ac (P:=P) (w:=w) (ty:=ty) (base:=none) (sLen:=0) (sCap:=0) (w':=w) M y O hi D (fun w=>vz o F w) (A w (fun _=>rfl)) (by simp[N.v]) (.inl ⟨rfl,rfl⟩)
      |succ J=>
       simp only at h;cases f:(N.ij (.c (J+1)) i.bytes).fits.cj R with
       |none=>simp[f]at h|some e=>simp only[f]at h;exact ap e f h
     |s J=>
      simp only at h;cases f:(N.ij (.s J) i.bytes).fits.cj R with
      |none=>simp[f]at h|some e=>simp only[f]at h;exact ap e f h
   ·rename_i b aq l aQ;cases f:((l.add n).ij i.bytes).fits.cj R with
    |none=>simp[f]at h|some e=>
     simp only[f]at h;obtain⟨j,Z⟩:=B.fU f;have mono:k.ok→e.ok:=by
      intro ok;clear T;unfold zu at h;cases aQ with
      |some C=>
       simp only at h;split at h
       case h_2=>
        split at h
        ·cases h
        ·rename_i ad;obtain⟨ae,_⟩:=B.oM ad;split at h
         ·cases h
         rename_i ag;obtain⟨aS,_⟩:=B.fU ag;split at h
         ·cases h
         split at h
         case h_2=>cases h
         rename_i ah;obtain⟨q,_⟩:=Data.pX ah;split at h
         case h_2=>cases h
         rename_i aj;simp only[aB,aN]at h;obtain⟨_,rfl⟩:=h;exact ae.ok (aS.ok (q.tF aj ok))
        ·rename_i ad;obtain⟨ae,_⟩:=B.oM ad;split at h
         ·cases h
         split at h
         case h_2=>cases h
         rename_i ak;obtain⟨q,_⟩:=Data.vw ak;split at h
         case h_2=>cases h
         simp only[aB,aN]at h;obtain⟨_,rfl⟩:=h;exact ae.ok (q.ok ok)
       split at h
       ·cases h
       ·split at h
        ·split at h
         case h_2=>cases h
         rename_i ah;obtain⟨q,_⟩:=Data.pX ah;split at h
         case h_2=>cases h
         rename_i aj;simp only[aB,aN]at h;obtain⟨_,rfl⟩:=h;exact q.tF aj ok
        ·split at h
         ·cases h
         ·split at h
          case h_2=>cases h
          rename_i ak;obtain⟨q,_⟩:=Data.vw ak;split at h
          case h_2=>cases h
          simp only[aB,aN]at h;obtain⟨_,rfl⟩:=h;exact q.ok ok
      |none=>
       simp only at h;split at h
       case h_2=>cases h
       split at h
       case h_2=>cases h
       split at h
       case h_2=>cases h
       rename_i ag;obtain⟨q,_⟩:=B.fU ag;split at h
       case h_2=>cases h
       simp only[aB,aN]at h;obtain⟨_,rfl⟩:=h;exact q.ok ok
     refine⟨fun ok=>p.ok (j.ok (mono ok)),fun ok=>?_⟩;have aw:=mono ok;obtain⟨U,us,V,I,A⟩:=T (j.ok aw);have g:=Z aw;rw[N.fits,N.jV,N.u7,N.gH]at g;have g:=aZ g;have g:(l.v+n.v)*i.bytes≤1099511627776:=g;exact(YU (ty:=ty) M y O hi an D X E (fun w=>vz o F w) A V U I (Jr aM I) ao L (p.trans j) g h).2 ok
   ·cases h
def YW{aj:List TypeId}{ak:List af}{vs:List Value}{ty:TypeId}{e:af}{S J:ai}(h:zv P aj ak S=some (e,J))(T:aJ β ak vs)(U:aL G β S.H w):
 (J.ok→S.ok)∧(J.ok→Does P G β S w (Builtin.copy_ ⟨aj⟩ ty ⟨vs⟩) e J):=by
 unfold zv at h;split at h
 case h_2=>cases h
 rename_i t aH;split at h
 case h_2=>cases h
 rename_i j aC;obtain⟨V,W⟩:=FI aC;split at h
 case h_2=>cases h
 rename_i d a;obtain⟨bd,bg,rfl,al,u⟩:=T.cons_inv;obtain⟨aD,bh,rfl,K,aI⟩:=u.cons_inv;have:=aI.r9;subst this;cases n:jx d with
 |none=>simp[n]at h|some l=>
  cases x:jx a with
  |none=>simp[n,x]at h|some m=>
   simp only[n,x]at h;cases X:lm a (m.min l) S with
   |none=>simp[X]at h|some r=>
    obtain⟨bi,q⟩:=r;simp only[X]at h;have L:(m.min l).v=Nat.min m.v l.v:=N.Xb m l;obtain⟨y,am⟩:=PT (P:=P) X K x (by rw[L];exact Br _ _) U;split at h
    ·cases h
    rename_i aK;split at h
    ·rename_i b o s bj;simp only[jx,aB]at n;subst n;cases u:q.read b with
     |none=>simp[u]at h|some aM=>
      simp only[u]at h;split at h
      case h_2=>cases h
      rename_i d' bk M;have Y:=M;obtain⟨z,M⟩:=Data.pX M;split at h
      case h_2=>cases h
      rename_i an A;simp only[aB,aN]at h;obtain⟨rfl,rfl⟩:=h;refine⟨fun ok=>y.ok (z.tF A ok),fun ok=>?_⟩;obtain⟨aO,us,aP,O,Z⟩:=am (z.tF A ok);obtain⟨h1,h2,h3⟩:=M (z7 A ok);obtain⟨base,aQ,rfl,bl,bm,ao⟩:=al.pW;have i:aL G β q.H w:=by rw[y.H];exact U
      have ap:∀w',(base=none∧w'=w∨∃p,base=some p∧(storeCells p us).aG P w=.ok () w')→(Builtin.copy_ ⟨t::aH⟩ ty ⟨[Value.slice base s.v aQ,aD]⟩).aG P w=.ok (.int .i64 ((m.min s).toZ).v) w':=by
       intro w' B;have j:Nat.min m.v s.v=(m.min s).v:=L.symm;have C:=Z w (fun _=>rfl);rcases B with⟨rfl,rfl⟩|⟨p,rfl,B⟩
       ·simp[Builtin.copy_,cN V,g9 W,vz x K,j,C,goInt,N.toZ_v]
       ·simp[Builtin.copy_,cN V,g9 W,vz x K,j,C,B,goInt,N.toZ_v]
      rcases ao with ao|⟨Q,aa,rfl,bf⟩
      ·
        have aq:(m.min s).v=0:=by rw[L];have:Nat.min m.v s.v≤s.v:=Bs _ _;omega
        have ar:us=[]:=Bm (by omega);obtain⟨bn,au,aS,_⟩:=ai.z6 A;obtain⟨bo,R,bp⟩:=ai.sg u;rw[z.H,R]at au;injection au with ab;injection ab with ab aT;subst ab aT;have aU:b<q.H.length:=by
         rcases cv b q.H.length with h|h
         ·exact h
         ·simp[di h]at R
        have av:aL G β an.H w∧bM β q.H w β an.H w:=by
         rw[aS,z.H];rcases i.blk b _ R (eu rfl)with⟨Q,aa,aV⟩|⟨aW,D⟩
         ·obtain⟨bq,br,vs,aY,bu,aZ,bs,a0,a1,a2⟩:=aV;have aw:=i.write (d':=d') R aa vs a0 (by rw[h2];exact a1) (by
           have:=h3 (us:=[]) (vs:=vs.take aM.len) (by rw[←ar];exact O) a2;rw[h2];simpa[aA.over]using this) (fun c ax=>fH.of (ax.tD (FA Y).1) (FA Y).2)
          rw[setRow_self w Q.c ⟨vs⟩ aY bu aZ]at aw;exact aw
         ·have E:∀(e:Nat) k,(q.H.set b ⟨d',.own⟩)[e]? =some k→(e=b∧k=⟨d',.own⟩)∨(e≠b∧q.H[e]? =some k):=by
           intro e k f;by_cases j:e=b
           ·subst j;rw[pL aU]at f;injection f with f;exact .inl ⟨rfl,f.symm⟩
           ·rw[mw (fB j)]at f;exact .inr ⟨j,f⟩
          refine⟨⟨?_,?_,fun e Q h=>by simpa using i.fW e Q h,i.dB,?_⟩,⟨aE.le_refl β,by simp,rfl,rfl,rfl,aX _,fun _ _ _=>bL.refl _ _,?_,fun _ _=>rfl⟩⟩
          ·intro e k f T;rcases E e k f with⟨rfl,rfl⟩|⟨ad,f⟩
           ·exact .inr ⟨by simp only[h2];exact aW,D⟩
           ·exact i.blk e k f T
          ·intro e ay k az F a3 a4 f ae I a5 g ag;rcases E e k f with⟨rfl,rfl⟩|⟨ad,f⟩
           ·rw[D]at g;cases g
           ·rcases E ay az ae with⟨rfl,rfl⟩|⟨bt,ae⟩
            ·rw[D]at ag;cases ag
            ·exact i.dO e ay k az F a3 a4 f ae I a5 g ag
          ·intro e k F f I g;rcases E e k f with⟨rfl,rfl⟩|⟨ad,f⟩
           ·rw[D]at g;cases g
           ·exact i.apart e k F f I g
          ·intro c ax ⟨e,k,F,f,I,g,a6⟩;rcases E e k f with⟨rfl,rfl⟩|⟨ad,f⟩
           ·rw[D]at g;cases g
           ·exact⟨e,k,F,f,I,g,a6⟩
        refine⟨_,w,ap w ?_,eV.refl w,fun _=>⟨β,.num (.int .i64 _),av.1,by rw[←y.H];exact av.2⟩⟩;cases base with
        |none=>exact .inl ⟨rfl,rfl⟩|some p=>exact .inr ⟨p,rfl,by rw[ar];rfl⟩
      ·have B:=Cz (P:=P) (us:=us) (o:=o.v) i z u A aa (by omega) h2 (fun a7=>h3 O a7) (Jr aK O);obtain⟨w',a8,a9,ah⟩:=B (FB Y _);exact⟨_,w',ap w' (.inr ⟨_,rfl,a8⟩),a9,fun ba=>let⟨bb,ah,bc⟩:=ah ba;⟨bb,.num (.int .i64 _),ah,by rw[←y.H];exact bc⟩⟩
    ·simp only[jx,aB]at n;subst n;simp only[aB,aN]at h;obtain⟨rfl,rfl⟩:=h;refine⟨y.ok,fun ok=>?_⟩;obtain⟨aO,us,aP,O,Z⟩:=am ok;cases al;have aq:(m.min (.c 0)).v=0:=by rw[L];simp[N.v]
     have C:=Z w (fun _=>rfl);rw[aq]at C;refine Does.pure U y (v:=.int .i64 0) ?_ (.num (.int .i64 (.c 0)));simp[Builtin.copy_,cN V,g9 W,vz x K,C,goInt]
    ·cases h
end
section
variable{P:Program}{G:Nat→Option (List af)}{β:aE}{w:World}
def PX(a:Nat):∀(l:List Value) (k:Nat) (cs:Array Value),a+k+l.length≤cs.size→
 ((l.zipIdx k).foldl (fun(cs:Array Value) (p:Value×Nat)=>cs.setIfInBounds (a+p.2) p.1) cs).toList=aA.over cs.toList (a+k) l
 |[],k,cs,h=>by simp[aA.over]|v::l,k,cs,h=>by
  simp only[List.zipIdx_cons,N8];rw[PX a l (k+1) _ (by simp at h⊢;omega),Wl];have:=list_seg_step cs.toList (a+k) v l (by simp at h⊢;omega);simpa[aA.over,iF]using this
def FJ(place:Nat→Option (Nat×Nat)):∀(a:List (Nat×af)) (vs:List (Nat×Value)) (d:List (Nat×Nat×af)) (cells:List af) (cs:Array Value) (r:List af),
 rS cells d=some r→aJ β cells cs.toList→a.length=vs.length→(∀(i:Nat) p v,a[i]? =some p→vs[i]? =some v→p.1=v.1∧aC β p.2 v.2)→
 a.length=d.length→(∀(i:Nat) p q,a[i]? =some p→d[i]? =some q→place p.1=some (q.1,q.2.1)∧q.2.2=p.2)→
 ∃e,Instr.fill place cs vs=some e∧aJ β r e.toList
 |[],[],[],cells,cs,r,h,f,_,_,_,_=>by simp[rS]at h;subst h;exact⟨cs,rfl,f⟩|p::a,v::vs,q::d,cells,cs,r,h,f,h1,h2,h3,h4=>by
  obtain⟨b,size,F⟩:=q;obtain⟨i,u⟩:=v;obtain⟨l,g⟩:=h2 0 p _ rfl rfl;obtain⟨m,n⟩:=h4 0 p _ rfl rfl;simp only at l m n g;subst n;simp only[rS]at h;cases j:p.2.row with
  |none=>simp[j]at h|some o=>
   simp only[j]at h;have s:=Jk j g;split at h
   case h_2=>cases h
   rename_i k;have k:o.length=size:=by simpa using k
   cases c:nj o b cells with
   |none=>simp[c]at h|some H=>
    simp only[c]at h;obtain⟨I,rfl⟩:=Fo _ _ _ _ c;have x:=f.1;have y:=s.1;have t:u.cells.size=size:=by rw[←k,y];simp
    have z:b+u.cells.size≤cs.size:=by
     have:cells.length=cs.size:=by rw[x];simp
     omega
    have A:(u.cells.zipIdx.foldl (fun cs (p:Value×Nat)=>cs.setIfInBounds (b+p.2) p.1) cs).toList=aA.over cs.toList b u.cells.toList:=by
     rw[←Wt,Array.toList_zipIdx];have:=PX b u.cells.toList 0 cs (by simpa using z);simpa using this
    obtain⟨e,B,C⟩:=FJ place a vs d _ (u.cells.zipIdx.foldl (fun cs (p:Value×Nat)=>cs.setIfInBounds (b+p.2) p.1) cs) r h
     (by rw[A];exact aJ.over f s b) (by simpa using h1) (fun i p v c g=>h2 (i+1) p v (by simpa using c) (by simpa using g)) (by simpa using h3) (fun i p q c D=>h4 (i+1) p q (by simpa using c) (by simpa using D))
    refine⟨e,?_,C⟩;rw[←B];have E:¬(cs.size<b+u.cells.size):=by omega
    simp[Instr.fill,←l,m,t,t▸E]
 |[],v::vs,_,_,_,_,_,_,h1,_,_,_=>by simp at h1|p::a,[],_,_,_,_,_,_,h1,_,_,_=>by simp at h1|[],[],q::d,_,_,_,_,_,_,_,h3,_=>by simp at h3|p::a,v::vs,[],_,_,_,_,_,_,_,h3,_=>by simp at h3
def FK(β:aE)(a:List (Nat×af))(vs:List (Nat×Value)):Prop:=a.length=vs.length∧∀(i:Nat) p v,a[i]? =some p→vs[i]? =some v→p.1=v.1∧aC β p.2 v.2
def run_places(fields:List Field)(places:List (Nat×Nat))(h:cU (fun(f:Field)=>(ej P f.type).map fun a=>(f.offset,a)) fields=some places)(w:World):
 (fields.mapM fun(f:Field)=>(Prod.mk f.offset <$> sizeOf f.type:Sem (Nat×Nat))).aG P w=.ok places w:=by
 induction fields generalizing places with
 |nil=>simp[cU]at h;subst h;rfl|cons f fields d=>
  simp only[cU]at h;cases b:ej P f.type with
  |none=>simp[b]at h|some a=>
   simp only[b,ia]at h;cases c:cU (fun(f:Field)=>(ej P f.type).map fun a=>(f.offset,a)) fields with
   |none=>simp[c]at h|some r=>
    simp only[c,aB]at h;subst h;simp[Wu,g9 b,d r c]
def YX{d e:Type}{f:d→Option e}{l:List d}{r:List e}(h:cU f l=some r)(i:Nat)(j:d)(k:e)(c:l[i]? =some j)(g:r[i]? =some k):f j=some k:=by
 induction l generalizing r i with
 |nil=>simp at c|cons a l m=>
  simp only[cU]at h;cases h1:f a with
  |none=>simp[h1]at h|some b=>
   cases h2:cU f l with
   |none=>simp[h1,h2]at h|some n=>
    simp[h1,h2]at h;subst h;cases i with
    |zero=>simp at c g;subst c g;exact h1|succ i=>exact m h2 i (by simpa using c) (by simpa using g)
def YY{t:TypeId}{a:List (Nat×af)}{vs:List (Nat×Value)}{y:af}{S:ai}(h:Io P t a=some y)(d:FK β a vs)(A:aL G β S.H w):
 Does P G β S w (Instr.build t ⟨vs⟩) y S:=by
 unfold Io at h;cases j:mG P t with
 |none=>simp[j]at h|some B=>
  simp only[j]at h;obtain⟨i,z,hi,C,D,_,_⟩:=tG j β;split at h
  ·rename_i fields k;cases l:cU (fun(f:Field)=>(ej P f.type).map fun b=>(f.offset,b)) fields.toList with
   |none=>simp[l]at h|some places=>
    simp only[l]at h;cases e:cU (fun(p:Nat×af)=>(aU p.1 places).map fun q=>(q.1,q.2,p.2)) a with
    |none=>simp[e]at h|some E=>
     simp only[e,bU]at h;obtain⟨r,m,rfl⟩:=h;obtain⟨c,o,s⟩:=FJ (β:=β) (fun i=>places[i]?) a vs E B z.cells r m D d.1 d.2 (tE e).symm (fun i p q u g=>by
      have:=YX e i p q u g;simp only[bU]at this;obtain⟨J,h1,h2⟩:=this;rw[cg]at h1;subst h2;exact⟨h1,rfl⟩)
     refine Does.pure A (Pure.refl _) (v:=.agg c) ?_ (by cases c;exact aC.z4 s);have F:=run_places (P:=P) fields.toList places l w;simp[Instr.build,zeroValue,typeInfo,hi,C,cN k,Oi,F,o]
  ·rename_i n I k;cases x:ej P I with
   |none=>simp[x]at h|some b=>
    simp only[x,bU]at h;obtain⟨r,m,rfl⟩:=h;obtain⟨c,o,s⟩:=FJ (β:=β) (fun i=>some (i*b,b)) a vs (a.map fun p=>(p.1*b,b,p.2)) B z.cells r m D d.1 d.2 (by simp) (fun i p q u g=>by
     simp only[dY,u,ia,aB]at g;subst g;exact⟨rfl,rfl⟩)
    refine Does.pure A (Pure.refl _) (v:=.agg c) ?_ (by cases c;exact aC.z4 s);simp[Instr.build,zeroValue,typeInfo,hi,C,cN k,g9 x,o]
  ·cases h
end
end
section
variable [aR][aF]
variable{Q:af}{S:ai}{t:TypeId}{R:ai}{vs:List Value}{a:af}{T:Value}{ty:TypeId}{n:Nat}{U:List (Nat×af)}{ts:List TypeId}{V:List af}
section
variable{P:Program}{G:Nat→Option (List af)}{β:aE}{w:World}
def PY{vs:List (Nat×Value)}(h:th P t n U S=some (Q,R))(s:FK β U vs):
 ∃(r:List af) (e:Array Value) (d:TypeId),R=(S.new (.gen r)).2∧Q=.ref (.sl S.H.length (.c 0) (.c n) (some (.c n)))∧aJ β r e.toList∧n≤e.toList.length∧
  ∀w:World,(Instr.buildSlice t n ⟨vs⟩).aG P w=.ok (.slice (some (at' w.heap.size 0)) n n) (w.alloc (.cells e d)):=by
 unfold th at h;split at h
 case h_2=>cases h
 rename_i d b I;obtain⟨J,u⟩:=FI I;split at h
 ·cases h
 rename_i j;have k:¬n*b=0:=by intro d;rw[d]at j;cases j
 have j:b≠0:=by intro d;rw[d]at k;simp at k
 split at h
 ·cases h
 rename_i x;have x:n*b≤2^24:=Wv x;cases l:mG P d with
 |none=>simp[l]at h|some K=>
  simp only[l]at h;obtain⟨i,z,hi,L,M,N,y⟩:=tG l β;obtain⟨ag,f,m⟩:=Cw u;rw[hi]at f;injection f with f;subst f;split at h
  case h_2=>cases h
  rename_i r A;simp only[aB,aN]at h;obtain⟨rfl,rfl⟩:=h;have B:=PL M n;rw[y,m]at B;obtain⟨e,C,D⟩:=FJ (β:=β) (fun i=>some (i*b,b)) U vs (U.map fun p=>(p.1*b,b,p.2)) _ (madeCells z.cells (n*b)) r A B s.1 s.2 (by simp) (fun i p q O E=>by
   simp only[dY,O,ia,aB]at E;subst E;exact⟨rfl,rfl⟩)
  have W:e.toList.length=n*b:=by
   have X:r.length=(List.replicate n K).flatten.length:=by
    have:∀(g:List (Nat×Nat×af)) (cells r:List af),rS cells g=some r→r.length=cells.length:=by
     intro g
     induction g with
     |nil=>intro cells r h;simp[rS]at h;subst h;rfl|cons q g Y=>
      intro cells r h;obtain⟨Z,size,v⟩:=q;simp only[rS]at h;cases F:v.row with
      |none=>simp[F]at h|some aa=>
       simp only[F]at h;split at h
       case h_2=>cases h
       cases o:nj aa Z cells with
       |none=>simp[o]at h|some ah=>
        simp only[o]at h;obtain⟨ab,rfl⟩:=Fo _ _ _ _ o;rw[Y _ _ h,Cx _ _ _ ab]
    exact this _ _ _ A
   rw[←D.1,X,List.length_flatten];simp[N,m]
  refine⟨r,e,d,rfl,rfl,D,?_,fun w=>?_⟩
  ·rw[W];exact En _ (by omega)
  ·have aj:(if n*b=0 then(#[]:Array Value)else z.cells).size=(if n*b=0 then 0 else b):=by split<;>simp[y,m]
   have ad:¬(16777216<n*b):=by omega
   have ae:madeCells z.cells (n*b)=(Array.range (n*b)).map (fun i=>z.cells[i%z.cells.size]!):=rfl;rw[ae]at C;simp[Instr.buildSlice,cN J,g9 u,k,ad,zeroValue,typeInfo,hi,L,C,newRow,at']
def YZ{vs:List (Nat×Value)}(h:th P t n U S=some (Q,R))(e:FK β U vs)(f:aL G β S.H w):
 (R.ok→S.ok)∧Does P G β S w (Instr.buildSlice t n ⟨vs⟩) Q R:=by
 obtain⟨r,c,d,rfl,rfl,g,k,bf⟩:=PY h e;refine⟨fun i=>i,.slice (some (at' w.heap.size 0)) n n,w.alloc (.cells c d),bf w,vr _ _,fun j=>⟨_,?_,Jn f d g (xK j)⟩⟩;refine .sl _ _ _ _ _ _ (aX _) (fun C b=>by injection b with b;subst b;rfl) (.inr ⟨_,aE.fJ ..,rfl,?_⟩)
 show 0+n≤c.toList.length;omega
def Ju{f:List af}{d:Nat}(h:partOf P t f d=some Q)(g:aJ β f vs)(w:World):
 ∃v,(part t ⟨vs⟩ d).aG P w=.ok v w∧aC β Q v:=by
 unfold partOf at h;cases c:nk P t with
 |none=>simp[c]at h|some b=>
  cases b with
  |true=>
   simp only[c]at h;cases e:ej P t with
   |none=>simp[e]at h|some i=>
    simp only[e,bU]at h;obtain⟨r,j,rfl⟩:=h;obtain⟨h1,rfl⟩:=Cs _ _ _ _ j;refine⟨.agg ⟨(vs.drop d).take i⟩,?_,aC.z4 ((g.drop d).take i)⟩;simp[part,vu c,g9 e,List.take_drop]
  |false=>
   simp only[c,cg]at h;obtain⟨v,h1,h2⟩:=g.get h;refine⟨v,?_,h2⟩;simp[part,vu c,h1]
def Y0{f:Nat}(h:Ip P t a f=some Q)(c:aC β a T)(d:aL G β S.H w):
 Does P G β S w (Instr.field t T f) Q S:=by
 unfold Ip at h;split at h
 case h_2=>cases h
 rename_i fields e;split at h
 case h_2=>cases h
 rename_i k;rw[cg]at h;cases b:fields.toList[f]? with
 |none=>simp[b]at h|some g=>
  simp only[b]at h;have i:fields[f]? =some g:=by simpa using b
  obtain⟨vs,rfl,j⟩:=c.xJ;obtain⟨v,h1,h2⟩:=Ju (P:=P) h j w;refine Does.pure d (Pure.refl _) ?_ h2;simp[Instr.field,cN e,i,asAgg,h1]
def PZ(b:ByteArray)(n:Nat):b[n]? =b.data.toList[n]? :=by
 rw[H8];by_cases h:n<b.size
 ·rw[getElem?_pos b n h,getElem?_pos b.data n h];rfl
 ·rw[getElem?_neg b n h,getElem?_neg b.data n h]
def P0{j β:Type}{f:j→Option β}:∀{d:List j} {l:List β},cU f d=some l→d.length=l.length∧∀(i:Nat) b,l[i]? =some b→∃Q,d[i]? =some Q∧f Q=some b
 |[],l,h=>by simp only[cU,aB]at h;subst h;exact⟨rfl,fun i b k=>by simp at k⟩|Q::r,l,h=>by
  simp only[cU]at h;cases c:f Q with
  |none=>simp[c]at h|some b=>
   cases e:cU f r with
   |none=>simp[c,e]at h|some m=>
    simp only[c,e,aB]at h;subst h;obtain⟨h1,h2⟩:=P0 e;refine⟨by simp[h1],fun i z g=>?_⟩;cases i with
    |zero=>simp at g;subst g;exact⟨Q,rfl,c⟩|succ i=>exact h2 i z (by simpa using g)
def Y1{i:af}{J:Value}(h:zw P t a i S=some (Q,R))(A:aC β a T)(hi:aC β i J)(y:aL G β S.H w):
 Pure S R∧(R.ok→Does P G β S w (Instr.index t T J) Q R):=by
 unfold zw at h;cases B:i.bF with
 |none=>simp[B]at h|some z=>
  simp only[B]at h;obtain⟨k,rfl⟩:=af.vv B hi;split at h
  case h_3=>cases h
  case h_2 q=>
   split at h
   case h_2=>cases h
   rename_i e;cases A;cases z with
   |c z=>
    simp only at h;split at h
    case h_2=>cases h
    rename_i f;rw[u0]at f;have g:0≤z:=aZ f;rw[cg]at h;cases j:e.data.toList[z.toNat]? with
    |none=>simp[j]at h|some b=>
     simp only[j,aB,aN]at h;obtain⟨rfl,rfl⟩:=h;refine⟨Pure.refl _,fun _=>Does.pure (v:=.int .u8 (b.toNat:Int)) y (Pure.refl _) ?_ (aC.num (.int .u8 (.c b.toNat)))⟩;have C:e.data[z.toNat]? =some b:=by rw[←H8];exact j
     simp[Instr.index,cN q,asIntOf,Z.v,g,PZ,C]
   |s d=>
    simp only at h;cases m:(jS (.s d) (.c e.size)).cj S with
    |none=>simp[m]at h|some N=>
     simp only[m,aB,aN]at h;obtain⟨rfl,rfl⟩:=h;obtain⟨u,D⟩:=z9 m;refine⟨u,fun ok=>?_⟩;obtain⟨g,p⟩:=D ok;simp only[Z.v]at g p;have x:d.toNat<e.data.toList.length:=by
      have h1:e.data.toList.length=e.size:=by rw[Eo];rfl
      rw[h1];omega
     obtain⟨b,j⟩:∃b,e.data.toList[d.toNat]? =some b:=⟨_,bW x⟩;have E:(BitVec.ofNat 8 b.toNat).toNat=b.toNat:=by
      rw[gZ];exact dM b.toNat_lt
     refine Does.pure (v:=.int .u8 (b.toNat:Int)) y u ?_ ?_
     ·have C:e.data[d.toNat]? =some b:=by rw[←H8];exact j
      simp[Instr.index,cN q,asIntOf,Z.v,g,PZ,C]
     ·have:=aC.num (β:=β) (.bQ (Ir e d));simpa[Ir,bh.val,bh.k,bh.z,Z.v,dZ,j,E]using this
  rename_i n F q;split at h
  case h_2=>cases h
  rename_i K;cases z with
  |s d=>
   simp only at h;cases o:ej P F with
   |none=>simp[o]at h|some e=>
   simp only[o]at h;split at h
   case h_2=>cases h
   rename_i j;cases I:cU af.fE K with
   |none=>simp[I]at h|some l=>
   simp only[I]at h;split at h
   case h_2=>cases h
   rename_i f;rw[dH]at f;have O:e=1:=rO f.1;have ae:l.length=n:=rO f.2;subst O;cases m:(jS (.s d) (.c (n:Int))).cj S with
   |none=>simp[m]at h|some N=>
   simp only[m,aB,aN]at h;obtain⟨rfl,rfl⟩:=h;obtain⟨u,D⟩:=z9 m;refine⟨u,fun ok=>?_⟩;obtain⟨g,p⟩:=D ok;simp only[Z.v]at g p;obtain⟨ag,W⟩:=P0 I;have L:d.toNat<l.length:=by omega
   obtain⟨Q,E,M⟩:=W d.toNat _ (bW L);obtain⟨vs,rfl,x⟩:=A.xJ;have X:partOf P F K (d.toNat*1)=some Q:=by
    unfold partOf;rw[j];simp only;rw[cg,w8];exact E
   obtain⟨v,h1,h2⟩:=Ju (P:=P) X x w;have Y:v=.int .u64 (l.getD d.toNat 0#64).toNat:=by
    cases Q with
    |num aa=>
     have ab:aa.fE=some l[d.toNat]:=M;rw[h2.num_inv,bh.oN ab];simp[dZ,L]
    |_=>cases M
   refine Does.pure (v:=v) y u ?_ (by rw[Y];exact .num (.au (l.getD d.toNat 0#64)));simp[Instr.index,cN q,asIntOf,Z.v,g,p,g9 o]at h1⊢;simpa using h1
  |c z=>
   simp only at h;split at h
   case h_2=>cases h
   rename_i f;rw[u0,OO,dH]at f;have g:0≤z:=aZ f.1;have p:z<(n:Int):=aZ f.2;cases o:ej P F with
   |none=>simp[o]at h|some e=>
    simp only[o,bU,aN]at h;obtain⟨r,ad,rfl,rfl⟩:=h;obtain⟨vs,rfl,x⟩:=A.xJ;obtain⟨v,h1,h2⟩:=Ju (P:=P) ad x w;refine⟨Pure.refl _,fun _=>Does.pure y (Pure.refl _) ?_ h2⟩;simp[Instr.index,cN q,asIntOf,Z.v,g,p,g9 o,h1]
def Y2(h:zx P t a S=some (Q,R))(j:aC β a T)(k:aL G β S.H w):
 Pure S R∧(R.ok→Does P G β S w (Instr.arrayAt t T) Q R):=by
 unfold zx at h;split at h
 case h_2=>cases h
 rename_i n f m;split at h
 ·cases h
 rename_i o;split at h
 case h_2=>cases h
 rename_i b p l s;cases e:(N.le (.c n) l).cj S with
 |none=>simp[e]at h|some u=>
  simp only[e,aB,aN]at h;obtain⟨rfl,rfl⟩:=h;obtain⟨g,d⟩:=B.fU e;refine⟨g,fun ok=>?_⟩;have d:=d ok;rw[N.jV]at d;have d:n≤l.v:=aZ d;obtain⟨a,x,rfl,y,z,i⟩:=j.pW;have A:n≠0:=fun f=>o f;rcases i with i|⟨q,r,rfl,bf⟩
  ·omega
  ·refine Does.pure k g ?_ (.ptr b p q r);have:¬(l.v<n):=by omega
   simp[Instr.arrayAt,cN m,this]
def Y3(h:Is P ts V=some Q)(k:aJ β V vs)(e:aL G β S.H w):
 Does P G β S w (Builtin.len_ ⟨ts⟩ ty ⟨vs⟩) Q S:=by
 unfold Is at h;split at h
 case h_2=>cases h
 rename_i t aH;split at h
 case h_2=>cases h
 rename_i a q;obtain⟨v,r,rfl,f,_⟩:=k.cons_inv;split at h
 ·rename_i n m d;cases h;exact Does.pure e (Pure.refl _) (v:=.int .i64 n) (by simp[Builtin.len_,cN d,goInt]) (.num (.int .i64 (.c n)))
 ·rename_i m d;split at h
  ·cases h;rename_i b o l s;obtain⟨p,j,rfl,_⟩:=f.pW;refine Does.pure e (Pure.refl _) (v:=.int .i64 l.toZ.v) (by simp[Builtin.len_,cN d,goInt,N.toZ_v]) (.num (.int .i64 l.toZ))
  ·cases h;rename_i g o l;obtain⟨j,rfl,_⟩:=f.Pk;refine Does.pure e (Pure.refl _) (v:=.int .i64 l.toZ.v) (by simp[Builtin.len_,cN d,goInt,N.toZ_v]) (.num (.int .i64 l.toZ))
  ·cases h;rename_i b l i;obtain⟨p,j,rfl,_⟩:=f.Cq;refine Does.pure e (Pure.refl _) (v:=.int .i64 l.toZ.v) (by simp[Builtin.len_,cN d,goInt,N.toZ_v]) (.num (.int .i64 l.toZ))
  ·cases h;cases f;exact Does.pure e (Pure.refl _) (v:=.int .i64 0) (by simp[Builtin.len_,cN d,goInt]) (.num (.int .i64 (.c 0)))
  ·cases h
 ·rename_i d;split at h
  ·cases h;rename_i i;cases f;exact Does.pure e (Pure.refl _) (v:=.int .i64 i.size) (by simp[Builtin.len_,cN d,goInt]) (.num (.int .i64 (.c i.size)))
  ·cases h
 ·cases h
def Y4(h:It P ts V=some Q)(g:aJ β V vs)(e:aL G β S.H w):
 Does P G β S w (Builtin.cap_ ⟨ts⟩ ty ⟨vs⟩) Q S:=by
 unfold It at h;split at h
 case h_2=>cases h
 rename_i t aH;split at h
 case h_2=>cases h
 rename_i a k;obtain⟨v,m,rfl,f,_⟩:=g.cons_inv;split at h
 ·rename_i n i d;cases h;exact Does.pure e (Pure.refl _) (v:=.int .i64 n) (by simp[Builtin.cap_,cN d,goInt]) (.num (.int .i64 (.c n)))
 ·rename_i i d;split at h
  ·cases h;rename_i b o l c;obtain⟨p,q,rfl,_,j,_⟩:=f.pW;have:=j c rfl;refine Does.pure e (Pure.refl _) (v:=.int .i64 c.toZ.v) (by simp[Builtin.cap_,cN d,goInt,N.toZ_v,this]) (.num (.int .i64 c.toZ))
  ·cases h;cases f;exact Does.pure e (Pure.refl _) (v:=.int .i64 0) (by simp[Builtin.cap_,cN d,goInt]) (.num (.int .i64 (.c 0)))
  ·cases h
 ·cases h
def P1{c:Bool}{i r:af}{f g:Value}{ts:Array TypeId}(h:min2 c Q i=some r)(m:aC β Q f)(o:aC β i g)(j:aL G β S.H w):
 Does P G β S w (if c then Builtin.max_ ts ty #[f,g]else Builtin.min_ ts ty #[f,g]) r S:=by
 unfold min2 at h;split at h
 case h_2=>cases h
 rename_i k a;split at h
 case h_2=>cases h
 rename_i q b;split at h
 ·cases h
 rename_i p;obtain rfl:=ER p;rw[m.num_inv,o.num_inv];have e:(if c=true then a.lt b else b.lt a).v=if c=true then decide (a.v<b.v)else decide (b.v<a.v):=by cases c<;>simp[Z.IF]
 have l:∀t:Bool,t=(if c=true then decide (a.v<b.v)else decide (b.v<a.v))→
  (if c then Builtin.max_ ts ty #[bh.val (.int k a),bh.val (.int k b)]else Builtin.min_ ts ty #[bh.val (.int k a),bh.val (.int k b)]).aG P w=.ok (.int k (if t then b.v else a.v)) w:=by
  intro t d;subst d;cases c<;>simp[Builtin.max_,Builtin.min_,Builtin.max2,Builtin.min2,bh.val,bh.k,bh.z]
 split at h
 ·rename_i t d;rw[d]at e;cases h;refine Does.pure j (Pure.refl _) (l t e) ?_;cases t
  ·exact .num (.int k a)
  ·exact .num (.int k b)
 ·rename_i t d;rw[d]at e;cases h;exact Does.pure j (Pure.refl _) (l t e) (.num (.int k (.s (if t then b.v else a.v))))
def Y5{Q c:bh}{b:B}(h:Iu Q c=some b):Q.k=c.k∧b.v=(Q.z.v==c.z.v):=by
 have w:∀{n:Nat} (p q:BitVec n),(p==q)=(((p.toNat:Int))==(q.toNat:Int)):=by
  intro n p q;rw[ov];simp[Wa];omega
 have pS:∀(Q:bh) (c:BitVec 8) (r:B),(Q.fD.map fun Q=>B.s (Q==c))=some r→Q.k=.u8∧r.v=(Q.z.v==(c.toNat:Int)):=by
  intro Q c r h;simp only[bU]at h;obtain⟨a,d,rfl⟩:=h;have:=bh.rX d;simp only[bh.val,Value.int.injEq]at this;exact⟨this.1,by rw[this.2];exact w a c⟩
 have si:∀(Q:bh) (c:BitVec 16) (r:B),(Q.mC.map fun Q=>B.s (Q==c))=some r→Q.k=.u16∧r.v=(Q.z.v==(c.toNat:Int)):=by
  intro Q c r h;simp only[bU]at h;obtain⟨a,d,rfl⟩:=h;have:=bh.Cc d;simp only[bh.val,Value.int.injEq]at this;exact⟨this.1,by rw[this.2];exact w a c⟩
 have xP:∀(Q:bh) (c:BitVec 32) (r:B),(Q.iq.map fun Q=>B.s (Q==c))=some r→Q.k=.u32∧r.v=(Q.z.v==(c.toNat:Int)):=by
  intro Q c r h;simp only[bU]at h;obtain⟨a,d,rfl⟩:=h;have:=bh.u9 d;simp only[bh.val,Value.int.injEq]at this;exact⟨this.1,by rw[this.2];exact w a c⟩
 have f:∀(Q:bh) (c:BitVec 64) (r:B),(Q.fE.map fun Q=>B.s (Q==c))=some r→Q.k=.u64∧r.v=(Q.z.v==(c.toNat:Int)):=by
  intro Q c r h;simp only[bU]at h;obtain⟨a,d,rfl⟩:=h;have:=bh.oN d;simp only[bh.val,Value.int.injEq]at this;exact⟨this.1,by rw[this.2];exact w a c⟩
 have g:∀(Q:BitVec 8) (c:bh) (r:B),(c.fD.map fun c=>B.s (Q==c))=some r→c.k=.u8∧r.v=((Q.toNat:Int)==c.z.v):=by
  intro Q c r h;simp only[bU]at h;obtain⟨a,d,rfl⟩:=h;have:=bh.rX d;simp only[bh.val,Value.int.injEq]at this;exact⟨this.1,by rw[this.2];exact w Q a⟩
 have i:∀(Q:BitVec 16) (c:bh) (r:B),(c.mC.map fun c=>B.s (Q==c))=some r→c.k=.u16∧r.v=((Q.toNat:Int)==c.z.v):=by
  intro Q c r h;simp only[bU]at h;obtain⟨a,d,rfl⟩:=h;have:=bh.Cc d;simp only[bh.val,Value.int.injEq]at this;exact⟨this.1,by rw[this.2];exact w Q a⟩
 have j:∀(Q:BitVec 32) (c:bh) (r:B),(c.iq.map fun c=>B.s (Q==c))=some r→c.k=.u32∧r.v=((Q.toNat:Int)==c.z.v):=by
  intro Q c r h;simp only[bU]at h;obtain⟨a,d,rfl⟩:=h;have:=bh.u9 d;simp only[bh.val,Value.int.injEq]at this;exact⟨this.1,by rw[this.2];exact w Q a⟩
 have l:∀(Q:BitVec 64) (c:bh) (r:B),(c.fE.map fun c=>B.s (Q==c))=some r→c.k=.u64∧r.v=((Q.toNat:Int)==c.z.v):=by
  intro Q c r h;simp only[bU]at h;obtain⟨a,d,rfl⟩:=h;have:=bh.oN d;simp only[bh.val,Value.int.injEq]at this;exact⟨this.1,by rw[this.2];exact w Q a⟩
 cases Q with
 |int k a=>
  cases c with
  |int m o=>
   simp only[Iu]at h;cases e:rQ k m with
   |false=>simp[e]at h|true=>
    simp only[e,aB]at h;subst h;exact⟨ER e,Z.Ca a o⟩
  |bQ c=>exact pS _ c b h|cX c=>exact si _ c b h|aD c=>exact xP _ c b h|au c=>exact f _ c b h
 |bQ Q=>obtain⟨h1,h2⟩:=g Q c b h;exact⟨h1.symm,h2⟩
 |cX Q=>obtain⟨h1,h2⟩:=i Q c b h;exact⟨h1.symm,h2⟩
 |aD Q=>obtain⟨h1,h2⟩:=j Q c b h;exact⟨h1.symm,h2⟩
 |au Q=>obtain⟨h1,h2⟩:=l Q c b h;exact⟨h1.symm,h2⟩
end
end
section
variable [aR][aF]
variable{t Q:TypeId}{n:Nat}{i:TypeInfo}{k:IntKind}{R:BinOp}
section
variable{P:Program}{G:Nat→Option (List af)}{β:aE}{w:World}
def Y6(w:World)(d:Nat)(t:TypeId)(k c:IntKind)(a b:Int)(h:P.underlying t=some (.int c)):(Op.equalIn (d+1) t (.int k a) (.int k b)).aG P w=.ok (a==b) w:=by
 simp[Op.equalIn,zH h]
def Y7(w:World)(d:Nat)(t:TypeId)(a b:Bool)(h:P.underlying t=some .bool):(Op.equalIn (d+1) t (.bool a) (.bool b)).aG P w=.ok (a==b) w:=by
 simp[Op.equalIn,zH h]
def Y8(w:World)(R:BinOp)(t:TypeId)(a b:Operand)(c d:Array Value)(e:P.eqGuardType P.depth t=false):(eqGuard R t a b (.agg c) (.agg d)).aG P w=.ok () w:=by
 cases R<;>simp[eqGuard,e]
def Y9(w:World)(h:P.info? t=some i):(sizeOf t).aG P w=.ok (P.cellsOf t) w:=by
 simp[sizeOf,typeInfo,h,Program.cellsOf]
def Za(w:World)(d:Nat)(c e:Array Value)(l:P.underlying t=some (.array n Q))(hi:P.info? Q=some i):
 (Op.equalIn (d+1) t (.agg c) (.agg e)).aG P w=(Op.eqItems d Q (P.cellsOf Q) c e (List.range n)).aG P w:=by
 simp only[Op.equalIn,Sem.rV,zH l,Result.andThen_ok,Y9 w hi];simp only[Std.Legacy.Range.forIn_eq_forIn_range',Std.Legacy.Range.size,gz,Nat.add_one_sub_one,Nat.div_one,Ww];generalize List.range' 0 n=is
 induction is generalizing w with
 |nil=>simp[Op.eqItems]|cons j is m=>
  simp only[List.forIn_cons,Op.eqItems,Sem.rV];generalize(part Q c (j*P.cellsOf Q)).aG P w=o;cases o with
  |ok a w1=>
   simp only[Result.andThen_ok];generalize(part Q e (j*P.cellsOf Q)).aG P w1=p;cases p with
   |ok b f=>
    simp only[Result.andThen_ok];generalize(Op.equalIn d Q a b).aG P f=q;cases q with
    |ok r g=>
     cases r
     ·simp only[Result.andThen_ok,Bool.not_false,gT,Sem.fT]
     ·simp only[Result.andThen_ok,Wx,m8,ei,Sem.fT];exact m g
    |halt h g=>simp[Result.andThen]
   |halt h f=>simp[Result.andThen]
  |halt h w1=>simp[Result.andThen]
def P2{Q:TypeId}{k:IntKind}(p:P.underlying Q=some (.int k))(d:Nat):∀(e c:List af) (vs us:List Value) (j m:Nat) (b:B),uR e c=some b→e.length=m→aJ β e (vs.drop j)→aJ β c (us.drop j)→
 (Op.eqItems (d+1) Q 1 ⟨vs⟩ ⟨us⟩ (List.range' j m)).aG P w=.ok b.v w
 |[],c,vs,us,j,m,b,h,l,h1,h2=>by
  simp only[kK]at l;subst l;cases c<;>simp[uR]at h;subst h;simp[Op.eqItems,B.v]
 |f::e,c,vs,us,j,m,b,h,l,h1,h2=>by
  cases c with
  |nil=>simp[uR]at h|cons o c=>
   simp only[uR]at h;cases g:Iv f o with
   |none=>simp[g]at h|some a=>
    cases q:uR e c with
    |none=>simp[g,q]at h|some r=>
     simp only[g,q,aB]at h;subst h;obtain⟨v,A,x,C,D⟩:=h1.cons_inv;obtain⟨u,E,y,F,bf⟩:=h2.cons_inv;have H:vs[j]? =some v:=by
      have:(vs.drop j)[0]? =some v:=by rw[x];rfl
      simpa using this
     have I:us[j]? =some u:=by
      have:(us.drop j)[0]? =some u:=by rw[y];rfl
      simpa using this
     have J:A=vs.drop (j+1):=by
      have:=iZ (List.drop 1) x;rw[H9]at this;simpa[Bo]using this.symm
     have K:E=us.drop (j+1):=by
      have:=iZ (List.drop 1) y;rw[H9]at this;simpa[Bo]using this.symm
     subst J K;obtain⟨s,rfl⟩:∃s,m=s+1:=⟨m-1,by simp at l;omega⟩;have L:=P2 p d e c vs us (j+1) s r q (by simpa using l) D bf;cases f<;>simp only[Iv,reduceCtorEq]at g;cases o<;>simp only[reduceCtorEq]at g;rename_i f o;obtain⟨M,N⟩:=Y5 g;have O:=C.num_inv;have S:=F.num_inv;subst O S;have T:(isAgg Q).aG P w=.ok false w:=by simp[isAgg,cN p]
     rw[List.range'_succ];simp only[Op.eqItems,Sem.rV,part,T,Result.andThen_ok,m8,ei,w8,rL,H,I,Sem.fT];have U:(Op.equalIn (d+1) Q f.val o.val).aG P w=.ok a.v w:=by
      rw[N];simp only[bh.val];rw[←M];exact Y6 w d Q f.k k f.z.v o.z.v p
     rw[U];simp only[Result.andThen_ok];rw[B.u6];cases V:a.v
     ·simp
     ·simp only[Wx,m8,ei,Bool.true_and];exact L
def Zb(d:P.underlying t=some (.array n Q))(e:P.underlying Q=some (.int k))(f:ej P Q=some 1){a c:List af}{vs us:List Value}{b:B}
 (h:uR a c=some b) (g:aJ β a vs) (j:aJ β c us) (l:a.length=n):(Op.equalIn 10000 t (.agg ⟨vs⟩) (.agg ⟨us⟩)).aG P w=.ok b.v w:=by
 obtain⟨i,hi,m⟩:=Cw f;rw[Za w 9999 ⟨vs⟩ ⟨us⟩ d hi];have o:P.cellsOf Q=1:=by simp[Program.cellsOf,hi,m]
 rw[o,Ww];exact P2 (P:=P) (w:=w) e 9998 a c vs us 0 n b h l (by simpa using g) (by simpa using j)
def Zc(f:P.underlying t=some (.array n Q))(g:P.underlying Q=some (.int k))(a b:Operand)(c e:Array Value):
 (eqGuard R t a b (.agg c) (.agg e)).aG P w=.ok () w:=by
 refine Y8 w R t a b c e ?_;have:∃d,P.depth=d+2:=⟨2*(P.types.size+Made.depth),rfl⟩;obtain⟨d,h⟩:=this;rw[h];simp[Program.eqGuardType,f,g]
def Jv{b:Array (String×TypeId)}(c:P.underlying t=some (.interface b))(d:Nat)(u:TypeId)(a:Value):
 (Op.equalIn (d+1) t (.iface u a) .nilIface).aG P w=.ok false w∧(Op.equalIn (d+1) t .nilIface (.iface u a)).aG P w=.ok false w∧(Op.equalIn (d+1) t .nilIface .nilIface).aG P w=.ok true w:=by
 simp[Op.equalIn,cN c]
def P3{R:BinOp}(aP:R=.eql∨R=.neq){t:TypeId}{m o:Operand}{q s:af}{d e:Value}{b:B}(h:BS P t (isConst m||isConst o) q s=some b)(j:aC β q d)(l:aC β s e):
 ((eqGuard R t m o d e).aG P w=.ok () w)∧(binOp R t d e).aG P w=.ok (.bool (if R=.eql then b.v else !b.v)) w:=by
 have fin:∀(u v:Value),(∀t a b,binOp .eql t u v=(do pure (.bool (←Op.equal t u v)))∧binOp .neq t u v=(do pure (.bool (!(←Op.equal t u v))))∨(a:Nat)=b+1)→True:=fun _ _ _=>trivial;have conv:∀{r:Bool},(Op.equalIn 10000 t d e).aG P w=.ok r w→(binOp .eql t d e=do pure (.bool (←Op.equal t d e)))→(binOp .neq t d e=do pure (.bool (!(←Op.equal t d e))))→(binOp R t d e).aG P w=.ok (.bool (if R=.eql then r else !r)) w:=by
  intro r x h1 h2;rcases aP with rfl|rfl
  ·rw[h1];simp[Op.equal,Op.maxDepth,x]
  ·rw[h2];simp[Op.equal,Op.maxDepth,x]
 unfold BS at h;split at h
 ·rename_i f;rw[dH]at f;have ex:q=.atom .fC:=by
   have:=f.1;unfold ED at this;split at this;rfl;cases this
  have A:s=.atom .fC:=by
   have:=f.2;unfold ED at this;split at this;rfl;cases this
  subst ex A;cases j;cases l;split at h
  case h_2=>cases h
  rename_i g;split at h
  case h_2=>cases h
  rename_i y c;cases h;refine⟨?_,?_⟩
  ·rw[pM]at g;rcases g with g|g
   ·cases m<;>simp[isConst]at g;rw[eqGuard_nil_constL];rfl
   ·cases o<;>simp[isConst]at g;rw[eqGuard_nil_constR];rfl
  ·exact conv (Jv (P:=P) (w:=w) c 9999 0 .nilFunc).2.2 rfl rfl
 ·rename_i C;clear C;unfold Ow at h;split at h
  ·rename_i D;split at h
   case h_2=>cases h
   rename_i I;split at h
   case h_2=>cases h
   rename_i n Q c;split at h
   case h_2=>cases h
   rename_i k z;split at h
   case h_2=>cases h
   rename_i E;split at h
   case h_2=>cases h
   rename_i f;obtain⟨vs,rfl,F⟩:=j.xJ;obtain⟨us,rfl,H⟩:=l.xJ;have f:D.length=n:=by simpa using f
   exact⟨Zc c z m o _ _,conv (Zb c z E h F H f) rfl rfl⟩
  ·rename_i a;split at h
   case h_2=>cases h
   rename_i p;split at h
   case h_2=>cases h
   rename_i c;cases h;rw[j.tC,l.tC]at conv⊢
   have Q:(Ov a p).v=(a.v==p.v):=by cases a<;>cases p<;>rfl
   rw[eqGuard_at_bool];refine⟨rfl,?_⟩;rw[Q];exact conv (Y7 w 9999 t a.v p.v c) rfl rfl
  ·split at h
   case h_2=>cases h
   split at h
   case h_2=>cases h
   rename_i y c;cases h;cases j;cases l;rw[eqGuard_nil_iface];exact⟨rfl,conv (Jv (P:=P) (w:=w) c 9999 _ _).2.1 rfl rfl⟩
  ·split at h
   case h_2=>cases h
   split at h
   case h_2=>cases h
   rename_i y c;cases h;cases j;cases l;rw[eqGuard_at_iface];exact⟨rfl,conv (Jv (P:=P) (w:=w) c 9999 _ _).1 rfl rfl⟩
  ·cases h
def Zd{c d:Operand}{e f r:af}{l m:Value}{S g:ai}(h:zz P R t c d e f S=some (r,g))(o:aC β e l)(p:aC β f m)(q:aL G β S.H w):
 Pure S g∧(g.ok→Does P G β S w (do eqGuard R t c d l m;binOp R t l m) r g):=by
 unfold zz at h;cases s:binop R e f S with
 |some y=>
  simp only[s,aB]at h;subst h;obtain⟨a,b,rfl,rfl,u,x⟩:=Xp (P:=P) w s t;refine⟨u,fun ok=>?_⟩;obtain⟨v,h1,h2⟩:=x ok;rw[o.num_inv,p.num_inv];refine Does.pure q u (v:=v) ?_ (aC.oS h2);rw[show eqGuard R t c d a.val b.val=pure ()from eqGuard_at_int _ _ _ _ _ _ _];simpa using h1
 |none=>
  simp only[s]at h;cases j:BS P t (isConst c||isConst d) e f with
  |none=>simp[j]at h|some b=>
   simp only[j]at h;cases R<;>simp only[aB,aN,reduceCtorEq]at h<;>obtain⟨rfl,rfl⟩:=h
   ·obtain⟨h1,h2⟩:=P3 (P:=P) (w:=w) (.inl rfl) j o p;refine⟨Pure.refl _,fun _=>Does.pure q (Pure.refl _) (v:=.bool b.v) ?_ (.bool b)⟩;simp only[Sem.rV,h1,Result.andThen_ok,h2];rfl
   ·obtain⟨h1,h2⟩:=P3 (P:=P) (w:=w) (.inr rfl) j o p;refine⟨Pure.refl _,fun _=>Does.pure q (Pure.refl _) (v:=.bool b.not.v) ?_ (.bool b.not)⟩;simp only[Sem.rV,h1,Result.andThen_ok,h2,B.IE];rfl
end
end
section
variable [aR][aF]
variable{ty:TypeId}{Q:Nat}{t u R:TypeId}{i:TypeInfo}{d:TypeDesc}{vs:List Value}{S:ai}{T V n:Nat}{U z W:Value}{cs:List af}
section
variable{P:Program}{G:Nat→Option (List af)}{β:aE}{w:World}
def Ze{a:Addr}{w':World}(b:P.underlying t=some (.slice R))(c:P.underlying u=some d)(j:xO d)
 (hi:P.info? R=some i) (k:i.size=Q) (e:∀w,(Builtin.lenOf U).aG P w=.ok n w) (f:(Builtin.firstCells Q n U).aG P w=.ok ⟨vs⟩ w) (g:T+n≤V)
 (h:(storeCells (a.add (T*Q)) vs).aG P w=.ok () w'):
 (Builtin.append_ #[t,u] ty #[.slice (some a) T V,U]).aG P w=.ok (.slice (some a) (T+n) V) w':=by
 subst k;rcases j with⟨l,rfl⟩|rfl
 ·simp[Builtin.append_,cN b,cN c,sizeOf,typeInfo,hi,e,f,g,h]
 ·simp[Builtin.append_,cN b,cN c,sizeOf,typeInfo,hi,e,f,g,h]
def Zf{base:Option Addr}{a:List Value}(b:P.underlying t=some (.slice R))(c:P.underlying u=some d)(o:xO d)
 (hi:P.info? R=some i) (e:i.zero=some z) (p:i.size=Q) (f:∀w,(Builtin.lenOf U).aG P w=.ok n w) (g:(Builtin.firstCells Q n U).aG P w.drew=.ok ⟨vs⟩ w.drew)
 (h:(Builtin.firstCells Q T (.slice base T V)).aG P w.drew=.ok ⟨a⟩ w.drew) (q:V<T+n) (r:(T+n)*i.bytes≤1099511627776) (j:i.bytes≠0):
 (Builtin.append_ #[t,u] ty #[.slice base T V,U]).aG P w=
  .ok (.slice (some (at' w.heap.size 0)) (T+n) (grownCap w (T+n) V R))
   (w.drew.alloc (.cells ⟨a++vs++(Builtin.zeroCells z.cells (grownCap w (T+n) V R-(T+n))).toList⟩ R)):=by
 subst p;have k:¬(T+n≤V):=by omega
 have s:T+n≤(T+n)*i.bytes:=En _ (by omega);have l:¬(9223372036854775807<((T:Int)+(n:Int))):=by omega
 have m:¬(281474976710656<Builtin.nextslicecap (T+n) V*i.bytes):=by have:=growslice_fits q (bytes:=i.bytes) (by omega);omega
 rcases o with⟨v,rfl⟩|rfl
 ·simp[Builtin.append_,cN b,cN c,sizeOf,typeInfo,zeroValue,hi,e,f,k,l,m,j,Question.forced,g,h,newRow,grownCap,at'];congr 2;apply jO;simp
 ·simp[Builtin.append_,cN b,cN c,sizeOf,typeInfo,zeroValue,hi,e,f,k,l,m,j,Question.forced,g,h,newRow,grownCap,at'];congr 2;apply jO;simp
def Zg{U:af}{aI:Value}{ae:ai}{r:af}{us:List Value}
 (aK:P.underlying t=some (.slice R)) (aM:P.underlying u=some d) (aO:xO d) (hi:P.info? R=some i) (a7:i.zero=some z) (aP:i.size=Q) (a8:z.cells.size=Q) (a9:i.bytes≠0)
 (aQ:∀w,(Builtin.lenOf W).aG P w=.ok 1 w) (aS:∀w':World,(∀a,w'.cell? a=w.cell? a)→(Builtin.firstCells Q 1 W).aG P w'=.ok ⟨us⟩ w') (aT:us.length=Q) (bJ:cs.length=Q) (ag:aJ β cs us)
 (ba:∀v∈us,v.oneCell'=true) (aU:aC β U aI) (X:aL G β S.H w) (h:BN U Q i.bytes cs S=some (r,ae)):
 (ae.ok→S.ok)∧(ae.ok→Does P G β S w (Builtin.append_ #[t,u] ty #[aI,W]) r ae):=by
 have ao:∀(g:Data) (q:List Value) (a:Option Addr) (l e:Nat) (D:List ah),g.full→q.length=l*Q→aJ β g.list (q++us)→g.len=(l+1)*Q→e<l+1→(l+1)*i.bytes≤1099511627776→
  (Builtin.firstCells Q l (.slice a l e)).aG P w.drew=.ok ⟨q⟩ w.drew→
  aL G β D w→bM β S.H w β D w→D.length=S.H.length→∀k:N,k.v=l+1→
  ∃v w',(Builtin.append_ #[t,u] ty #[.slice a l e,W]).aG P w=.ok v w'∧eV w w'∧(lp w w'→∃p,aC p (.ref (.sm S.H.length k Q)) v∧aL G p (D++[⟨g,.own⟩]) w'∧bM β S.H w p (D++[⟨g,.own⟩]) w'):=by
  intro g q a l e D bb bc ap Y bd aj bg bh bi aV k aW;have bj:=Zf (P:=P) (w:=w) (base:=a) (ty:=ty) aK aM aO hi a7 aP aQ (aS w.drew (fun a=>rfl)) bg bd aj a9;have bk:(Builtin.zeroCells z.cells (grownCap w (l+1) e R-(l+1))).toList.length=(grownCap w (l+1) e R-(l+1))*Q:=by simp[Builtin.zeroCells,a8]
  have bK:(l+1)*Q=l*Q+Q:=by rw[jR]
  have ak:=bh.drew.new g (q++us++(Builtin.zeroCells z.cells (grownCap w (l+1) e R-(l+1))).toList) R (by rw[fA,fA];omega) (by
   rw[HS (by rw[fA];omega),qw (by rw[fA];omega)];exact ap)
  refine⟨_,_,bj,Jh _ _,fun E=>?_⟩;have ak:=ak (fH.of (Jg E) bb);refine⟨_,?_,ak.1,(bi.trans (bM.drew β D w)).trans ak.2⟩;have bl:=Js w (l+1) e R;have bL:grownCap w (l+1) e R*Q=(l+1)*Q+(grownCap w (l+1) e R-(l+1))*Q:=by
   rw[←Bp];congr 1;omega
  have y:=aC.sm (β:=β.put D.length ⟨w.heap.size,0,(q++us++(Builtin.zeroCells z.cells (grownCap w (l+1) e R-(l+1))).toList).length⟩) D.length k Q (some (at' w.heap.size 0)) (grownCap w (l+1) e R)
   (by rw[aW];exact bl) (.inr ⟨_,aE.fJ ..,rfl,by
    show grownCap w (l+1) e R*Q≤(q++us++_).length;rw[fA,fA,bk,bc,aT];omega⟩)
  rw[aW,aV]at y;rw[←aV]at y⊢;exact y
 unfold BN at h;split at h
 ·
   cases aU;split at h
   case h_2=>cases h
   rename_i aq ar;obtain⟨C,y⟩:=B.fU ar;simp only[aB,aN]at h;obtain⟨rfl,rfl⟩:=h;refine⟨fun o=>C.ok o,fun ok=>?_⟩;have bm:(1:Nat)*i.bytes≤1099511627776:=by
    have:=y ok;simpa[N.fits,N.le,N.ij,B.v]using this
   obtain⟨v,w',Z,aa,A⟩:=ao (.gen cs) [] none 0 0 S.H (lX _) (by simp) (show aJ β (Data.gen cs).list ([]++us)from ag) (by show cs.length=_;omega) (by omega) (by simpa using bm) (xL P _ Q 0 _ _) X (bM.refl ..) rfl (.c 1) rfl;refine⟨v,w',Z,aa,fun E=>?_⟩;obtain⟨p,A,ab,ad⟩:=A E;refine⟨p,by rw[C.H];exact A,?_,?_⟩
   ·show aL G p (aq.H++_) w';rw[C.H];exact ab
   ·show bM β S.H w p (aq.H++_) w';rw[C.H];exact ad
 ·rename_i b l f;split at h
  ·cases h
  rename_i au;have au:f=Q:=by simpa using au
  subst au;simp only[cg]at h;split at h
  case h_2=>cases h
  rename_i g m av;cases m<;>simp only[reduceCtorEq]at h;split at h
  case h_2=>cases h
  rename_i aq bo;obtain⟨bp,bq⟩:=B.fU bo;split at h
  case h_2=>cases h
  rename_i F br;obtain⟨aY,bs⟩:=B.fU br;cases I:g.app (.gen cs)with
  |none=>simp[I]at h|some L=>
   simp only[I,aB,aN]at h;obtain⟨rfl,rfl⟩:=h;have C:=bp.trans aY;refine⟨fun o=>C.ok o,fun ok=>?_⟩;have h3:=bs ok;have h1:=bq (aY.ok ok);obtain⟨a,e,rfl,bN,K⟩:=aU.Cq;have aw:l.v*f=g.len:=by
    cases l<;>simpa[N.eq,N.ij,B.v,N.v]using h1
   have aj:(l.v+1)*i.bytes≤1099511627776:=by
    cases l with
    |c U=>exact Wv h3|s U=>exact aZ h3
   obtain⟨bt,ax⟩:=Data.FH I;have M:(F.kill b).H=S.H.set b ⟨.gen [],.bn⟩:=by simp[ai.kill,iO,C.H]
   have a0:aL G β (S.H.set b ⟨.gen [],.bn⟩) w:=X.kill b _;have al:(l.add (.c 1)).v=l.v+1:=N.gH ..;have Y:L.len=(l.v+1)*f:=by
    have:(Data.gen cs).len=cs.length:=rfl;rw[bt,this,jR];omega
   rcases X.blk b _ av (eu rfl)with⟨x,am,bv⟩|⟨bw,E⟩
   ·obtain⟨bx,a1,vs,bz,bu,bA,bB,bC,bO,bD⟩:=(show se β g x w from bv);by_cases ay:l.v+1≤e
    ·rcases K with K|⟨a2,J,rfl,bf⟩
     ·omega
     ·rw[am]at J;injection J with R;subst R;have bE:(l.v+1)*f≤e*f:=fQ _ ay;rw[jR]at bE;have a3:=Fw P x.c (l.v*f) bz bu us 0 ⟨vs⟩ w bA bB (by simp;omega) ba (fun k _ _=>(a1.tD (Data.pY I).1).tu k true);simp only[gd]at a3;have ap:aJ β L.list ((aA.over vs (l.v*f) us).take L.len):=by
       have:=ax bD ag;have az:vs.take g.len++us=(aA.over vs (l.v*f) us).take L.len:=by
        rw[Y,aw,jR,aw];have bP:(vs.take g.len++us).length=g.len+f:=by rw[fA,qx,aT];omega
        show _=(vs.take g.len++us++vs.drop (g.len+us.length)).take (g.len+f);rw[HS (by omega)];exact(qw (by omega)).symm
       rw[←az];exact this
      have a4:=X.move av am (aA.over vs (l.v*f) us) (by rw[Cx _ _ _ (by omega),bC]) (by rw[Y,jR];omega) ap (fun c ar=>fH.of (ar.tD (Data.pY I).1) (Data.pY I).2) (.gen []);refine⟨.slice (some (at' x.c x.base)) (l.v+1) e,w.setRow x.c ⟨aA.over vs (l.v*f) us⟩,?_,Jf w a1.mine _,fun _=>⟨β.put S.H.length x,?_,?_,?_⟩⟩
      ·refine Ze (ty:=ty) aK aM aO hi aP aQ (aS w (fun _=>rfl)) ay ?_;rw[oT,show at' x.c (x.base+l.v*f)=⟨x.c,l.v*f,none⟩ by simp[at',bx]];exact a3
      ·have bF:F.H.length=S.H.length:=by rw[C.H]
       have:=aC.sm (β:=β.put S.H.length x) F.H.length (l.add (.c 1)) f (some (at' x.c x.base)) e (by rw[al];exact ay)
        (.inr ⟨x,by rw[bF];exact aE.fJ ..,rfl,bf⟩)
       rw[al]at this;exact this
      ·show aL G _ ((F.kill b).H++_) _;rw[M];exact a4.1
      ·show bM β S.H w _ ((F.kill b).H++_) _;rw[M];exact a4.2
    ·have hold:∃q:List Value,q.length=l.v*f∧aJ β g.list q∧(Builtin.firstCells f l.v (.slice a l.v e)).aG P w.drew=.ok ⟨q⟩ w.drew:=by
      rcases K with K|⟨a2,J,rfl,bf⟩
      ·have O:l.v=0:=by omega
       have bG:g.len=0:=by rw[←aw,O,w9]
       have aD:g.list=[]:=Bm (by rw[Data.jB];exact bG);refine⟨[],by rw[O];simp,by rw[aD];exact aJ.nil β,?_⟩;rw[O];cases a with
       |none=>exact xL P _ f 0 _ _|some a=>exact vt P _ f 0 a _ _ [] (by simp) (fun j v y=>by simp at y) (fun j an=>absurd an (ox _))
      ·rw[am]at J;injection J with R;subst R;obtain⟨a5,bQ,a6,bH,gI⟩:=FG X av (by intro h;cases h) am (o:=0) (n:=g.len) (by omega) (Data.pY I).1;rw[H7,qw (by rw[Data.jB];exact aX _)]at a6;refine⟨a5,by omega,a6,vt P _ f l.v _ _ _ a5 (by omega) (fun j v y=>?_) (fun j an=>by have:=gI j (by omega);rw[gd]at this;exact this)⟩;have:=bH j v y;rw[gd]at this;exact this
     obtain⟨q,bI,az,aH⟩:=hold;obtain⟨v,w',Z,aa,A⟩:=ao L q a l.v e (S.H.set b ⟨.gen [],.bn⟩) (Data.pY I).2 bI (ax az ag) Y (by omega) aj aH a0 (bM.kill b _) (by simp) (l.add (.c 1)) al;refine⟨v,w',Z,aa,fun E=>?_⟩;obtain⟨p,A,ab,ad⟩:=A E;refine⟨p,by rw[C.H];exact A,?_,?_⟩
     ·show aL G p ((F.kill b).H++_) w';rw[M];exact ab
     ·show bM β S.H w p ((F.kill b).H++_) w';rw[M];exact ad
   ·have bR:e=0:=by
     rcases K with K|⟨a2,J,_⟩
     ·exact K
     ·rw[E]at J;cases J
    have O:l.v=0:=by omega
    have aD:g.list=[]:=Bm (by rw[Data.jB];exact bw);have aH:(Builtin.firstCells f l.v (.slice a l.v e)).aG P w.drew=.ok ⟨[]⟩ w.drew:=by
     rw[O];cases a with
     |none=>exact xL P _ f 0 _ _|some a=>exact vt P _ f 0 a _ _ [] (by simp) (fun j v y=>by simp at y) (fun j an=>absurd an (ox _))
    obtain⟨v,w',Z,aa,A⟩:=ao L [] a l.v e (S.H.set b ⟨.gen [],.bn⟩) (Data.pY I).2 (by rw[O];simp) (ax (by rw[aD];exact aJ.nil β) ag) Y (by omega) aj aH a0 (bM.kill b _) (by simp) (l.add (.c 1)) al;refine⟨v,w',Z,aa,fun E=>?_⟩;obtain⟨p,A,ab,ad⟩:=A E;refine⟨p,by rw[C.H];exact A,?_,?_⟩
    ·show aL G p ((F.kill b).H++_) w';rw[M];exact ab
    ·show bM β S.H w p ((F.kill b).H++_) w';rw[M];exact ad
 ·cases h
def Zh{k:af}(h:Il k Q S=some cs)(p:aC β k W)(y:aL G β S.H w):
 ∃us:List Value,us.length=Q∧cs.length=Q∧aJ β cs us∧(∀w,(Builtin.lenOf W).aG P w=.ok 1 w)∧(∀w':World,(∀a,w'.cell? a=w.cell? a)→(Builtin.firstCells Q 1 W).aG P w'=.ok ⟨us⟩ w')∧∀v∈us,v.oneCell'=true:=by
 unfold Il at h;split at h
 case h_2=>cases h
 rename_i b o l c;split at h
 case h_2=>cases h
 split at h
 case h_2=>cases h
 rename_i e A;split at h
 case h_2=>cases h
 rename_i g;injection h with h;subst h;simp only[dH]at g;have B:e.length=Q:=by simpa using g.1
 obtain⟨m,C,D⟩:=ai.sg A;obtain⟨a,E,rfl,q,L,r⟩:=p.pW;have q:1≤E:=q;rcases r with r|⟨M,F,rfl,bf⟩
 ·omega
 ·obtain⟨us,s,f,I,gI⟩:=FG y C D F (o:=0) (n:=Q) (by show 0+Q≤e.length;omega) (lX _);have f:aJ β e us:=by
   have:((Data.gen e).list.drop 0).take Q=e:=by
    show(e.drop 0).take Q=e;rw[H7,qw (by omega)]
   rw[this]at f;exact f
  refine⟨us,s,B,f,fun w=>vz (l:=.c 1) (x:=.ref (.sl b (.c 0) (.c 1) c)) rfl p w,fun w' J=>?_,Jr (d:=.gen e) g.2 f⟩;refine vt P _ Q 1 _ _ _ us (by omega) (fun j v K=>?_) (by rw[s];exact gI);rw[J];exact I j v K
def Zi{j:List TypeId}{k:List af}{U:af}{b:ai}(h:BO P j k S=some (U,b))(l:aJ β k vs)(e:aL G β S.H w):
 (b.ok→S.ok)∧(b.ok→Does P G β S w (Builtin.append_ ⟨j⟩ ty ⟨vs⟩) U b):=by
 unfold BO at h;split at h
 ·rename_i r f;injection h with h;subst h;exact YV f l e
 ·unfold Im at h;split at h
  case h_2=>cases h
  rename_i t u;split at h
  case h_2=>cases h
  rename_i R Q p;obtain⟨q,s⟩:=FI p;split at h
  ·cases h
  split at h
  case h_1=>cases h
  case h_2=>cases h
  rename_i i M hi v;obtain⟨x,z,a,y,_,_,m⟩:=tG v β;rw[hi]at a;injection a with a;subst a;obtain⟨x,a,o⟩:=Cw s;rw[hi]at a;injection a with a;subst a;rw[o]at m;split at h
  ·cases h
  rename_i c;have c:i.bytes≠0:=by intro R;rw[R]at c;cases c
  split at h
  ·cases h
  rename_i g;obtain⟨d,g,A⟩:=PW g;split at h
  case h_2=>cases h
  rename_i U N;obtain⟨O,X,rfl,B,f⟩:=l.cons_inv;obtain⟨W,Y,rfl,C,D⟩:=f.cons_inv;have:=D.r9;subst this;split at h
  case h_2=>cases h
  rename_i cs E;obtain⟨us,F,I,J,dn,K,L⟩:=Zh (P:=P) E C e;exact Zg q g A hi y o m c dn K F I J L B e h
end
end
section
variable [aR][aF]
variable{S:ai}{P:Program}{R:ai}{Q:af}
section
variable{G:Nat→Option (List af)}{β:aE}{w:World}
def CE{ev:Operand→af}{a:Operand→Value}(h:∀Q,aC β (ev Q) (a Q)):∀l:List Operand,aJ β (lS ev l) (l.map a)|[]=>aJ.nil β|Q::l=>aJ.cons (h Q) (CE h l)
def FL{ev:Operand→af}{c:Operand→Value}(h:∀Q,aC β (ev Q) (c Q)):∀l:List (Nat×Operand),FK β (pO ev l) (l.map fun p=>(p.1,c p.2))
 |[]=>⟨rfl,fun i p v a=>by simp[pO]at a⟩|(k,Q)::l=>by
  obtain⟨h1,h2⟩:=FL h l;refine⟨by simp[pO,h1],fun i p v a b=>?_⟩;cases i with
  |zero=>simp[pO]at a b;subst a b;exact⟨rfl,h Q⟩|succ i=>exact h2 i p v (by simpa[pO]using a) (by simpa using b)
def Jw{ev:Operand→af}{b:Operand→Value}(h:∀Q,aC β (ev Q) (b Q))(a:Option Operand):mS β (oI ev a) (a.map b):=by
 cases a with
 |none=>trivial|some Q=>exact h Q
def qI(P:Program)(G:Nat→Option (List af))(β:aE)(S:ai)(w:World)(b:Sem Next)(Q:af)(R:ai):Prop:=
 ∃r v w',b.aG P w=.ok r w'∧(r=.value v∨r=.skip∧v=undef)∧eV w w'∧(lp w w'→∃a,aC a Q v∧aL G a R.H w'∧bM β S.H w a R.H w')
def hH{a:Sem Value}(h:Does P G β S w a Q R):qI P G β S w (do pure (Next.value (←a))) Q R:=by
 obtain⟨v,w',h1,h2,h3⟩:=h;exact⟨.value v,v,w',by simp[h1],.inl rfl,h2,h3⟩
def Zj{a:Sem Unit}(h:Ji P G β S w a R):qI P G β S w (do a;pure Next.skip) .aa R:=by
 obtain⟨w',h1,h2,h3⟩:=h;exact⟨.skip,undef,w',by simp[h1],.inr ⟨rfl,rfl⟩,h2,fun b=>let⟨c,d,e⟩:=h3 b;⟨c,.aa _,d,e⟩⟩
def qI.val{v:Value}(a:aL G β S.H w)(h:aC β Q v):qI P G β S w (pure (Next.value v)) Q S:=
 ⟨.value v,v,w,rfl,.inl rfl,eV.refl w,fun _=>⟨β,h,a,bM.refl ..⟩⟩
def tH{a:Option af}(h:val S a=some (Q,R)):a=some Q∧R=S:=by
 cases a with
 |none=>simp[val]at h|some b=>simp[val]at h;exact⟨by rw[h.1],h.2.symm⟩
class lY(C:eK):Prop where
 ok:∀f args v,C.ext f args=some v→∀(β:aE) vs w,aJ β args vs→∃u,aC β v u∧(callFunc f ⟨vs⟩).aG C.P w=.ok (.value u) w
 P4:∀t m f,C.gv t m=some f→∀(p:Addr) w,(nilAhead (C.P.types.size+Made.depth) t (.pointer (some p)) m).aG C.P w=.ok (some false) w
def Zk{C:eK}[lY C](Y:C.dB=G){o:Oper}{f:(Operand→af)→ai→Option (af×ai)}{ev:Operand→af}{ρ:Operand→Value}{Q:af}{S R:ai}(L:nq C o.op=.run f)(h:f ev S=some (Q,R))
 (e:∀Q,aC β (ev Q) (ρ Q)) (g:aL G β S.H w):(R.ok→S.ok)∧(R.ok→qI C.P G β S w (execOp ρ o) Q R):=by
 obtain⟨Z,M,ag,aV,after,guard⟩:=o;simp only at L;cases M<;>simp only[nq,Iy.run.injEq,reduceCtorEq]at L<;>subst L<;>(try(simp at h;done))<;>(try dsimp only at h)
 case move a=>
  simp only[aB,aN]at h;obtain⟨rfl,rfl⟩:=h;exact⟨id,fun _=>qI.val g (e a)⟩
 case assign a=>
  simp only[aB,aN]at h;obtain⟨rfl,rfl⟩:=h;exact⟨id,fun _=>qI.val g (e a)⟩
 case pick c a b=>
  unfold BU at h;split at h
  case h_2=>cases h
  rename_i t N;have aa:=e c;rw[N]at aa;have ab:=aa.tC;split at h
  ·rename_i ad I;simp only[aB,aN]at h;obtain⟨rfl,rfl⟩:=h;obtain⟨m,q⟩:=B.oM I;refine⟨m.ok,fun ok=>?_⟩;refine⟨.value (ρ a),ρ a,w,?_,.inl rfl,eV.refl w,fun _=>⟨β,e a,by rw[m.H];exact g,by rw[m.H];exact bM.refl ..⟩⟩;simp[execOp,ab,asBool,q ok]
  ·rename_i ad I;simp only[aB,aN]at h;obtain⟨rfl,rfl⟩:=h;obtain⟨m,q⟩:=B.oM I;refine⟨m.ok,fun ok=>?_⟩;refine⟨.value (ρ b),ρ b,w,?_,.inl rfl,eV.refl w,fun _=>⟨β,e b,by rw[m.H];exact g,by rw[m.H];exact bM.refl ..⟩⟩;simp[execOp,ab,asBool,q ok]
  ·cases h
 case alloc D=>
  obtain⟨h1,h2⟩:=YJ Y h g;exact⟨h1,fun _=>hH h2⟩
 case box t v=>
  obtain⟨h1,h2⟩:=YK (P:=C.P) (t:=t) h (e v) g;exact⟨h1,fun _=>hH h2⟩
 case build t E=>
  obtain⟨r,y⟩:=tH h;clear h;have h:=r;clear r;subst y;refine⟨id,fun _=>?_⟩;have:=hH (YY h (FL e E.toList) g);have D:E.map (fun(Q:Nat×Operand)=>(Q.1,ρ Q.2))=⟨E.toList.map fun p=>(p.1,ρ p.2)⟩:=by apply jO;simp
  simp only[execOp];rw[D];exact this
 case buildSlice t n E=>
  obtain⟨h1,h2⟩:=YZ h (FL e E.toList) g;refine⟨h1,fun _=>?_⟩;have D:E.map (fun(Q:Nat×Operand)=>(Q.1,ρ Q.2))=⟨E.toList.map fun p=>(p.1,ρ p.2)⟩:=by apply jO;simp
  simp only[execOp];rw[D];exact hH h2
 case load t a=>
  rw[Y]at h;obtain⟨m,h2⟩:=YA h (e a) g;exact⟨m.ok,fun ok=>hH (h2 ok)⟩
 case store t a v=>
  unfold EE at h;split at h
  case h_2=>cases h
  rename_i ad ah;simp only[aB,aN]at h;obtain⟨rfl,rfl⟩:=h;obtain⟨h1,h2⟩:=YE ah (e a) (e v) g;exact⟨h1,fun ok=>Zj (h2 ok)⟩
 case nilCheck a=>
  have s:=e a;unfold BX at h;split at h
  ·rename_i b ae A;simp only[aB,aN]at h;obtain⟨rfl,rfl⟩:=h;rw[A]at s;refine⟨id,fun _=>?_⟩;obtain⟨O,K,q⟩:=s.sd;have:=qI.val (P:=C.P) g s;rw[q]at this;simp only[execOp,q];exact this
  ·rename_i b ae A;simp only[aB,aN]at h;obtain⟨rfl,rfl⟩:=h;rw[A]at s;refine⟨id,fun _=>?_⟩;have q:=s.Cr;have:=qI.val (P:=C.P) g s;rw[q]at this;simp only[execOp,q];exact this
  ·rename_i aW aj ak;split at h
   case h_2=>cases h
   rename_i f n;split at h
   case h_2=>cases h
   rename_i name;split at h
   case h_2=>cases h
   split at h
   case h_2=>cases h
   rename_i aX;split at h
   case h_2=>cases h
   rename_i aY aZ;split at h
   case h_2=>cases h
   rename_i t;split at h
   case h_2=>cases h
   rename_i a0;split at h
   case h_2=>cases h
   rename_i b ae;split at h
   case h_2=>cases h
   rename_i al am;simp only[aB,aN]at h;obtain⟨rfl,rfl⟩:=h;rw[ak]at s;refine⟨id,fun _=>?_⟩;have this:=qI.val (P:=C.P) g s;obtain⟨p,q⟩:∃p,ρ a=.func (.method name) #[.iface t (.pointer (some p))] #[]:=by
    generalize ρ a=u at s;cases s with
    |fn _ _ _ first captured J T U=>
     match first,J with
     |[V],_=>
      have N:captured=[]:=by
       cases captured with
       |nil=>rfl|cons c cs=>simp at T
      subst N;have W:=U 0 _ V rfl rfl;cases W with
      |ig _ _ a1 h1=>
       obtain⟨O,_,an⟩:=h1.sd;subst an;exact⟨_,rfl⟩
   rw[q]at this;have J:=lY.P4 t name al am p w;obtain⟨ao,V,ap,h1,h2⟩:=this;refine⟨ao,V,ap,?_,h2⟩;rw[←h1];simp[execOp,q,J]
  ·cases h
 case binOp M t j aq a2=>
  obtain⟨m,h2⟩:=Zd h (e j) (e aq) g;exact⟨m.ok,fun ok=>hH (h2 ok)⟩
 case unOp M t j=>
  obtain⟨r,y⟩:=tH h;clear h;have h:=r;clear r;subst y;refine⟨id,fun _=>?_⟩;have x:=e j;have J:b5 (ev j) (ρ j):=by
   cases F:ev j with
   |num n=>rw[F]at x;rw[x.num_inv];exact .num n|atom a=>
    cases a with
    |bool b=>rw[F]at x;rw[x.tC];exact .bool b|_=>rw[F]at h;simp[unop]at h
   |_=>rw[F]at h;simp[unop]at h
  obtain⟨v,h1,h2⟩:=Xs (P:=C.P) w J h;exact hH (Does.pure g (Pure.refl _) h1 (aC.oS h2))
 case convert ar Z j=>
  unfold zB at h;split at h
  ·cases h
  rename_i a3 au;split at h
  case h_3=>cases h
  case h_2=>
   rename_i D X;unfold zA at h;split at h
   ·cases h
   rename_i av;have aw:ar=Z:=rO av;split at h
   case h_2=>cases h
   rename_i ax;split at h
   case h_2=>cases h
   rename_i b o n a4 q;split at h
   case h_1=>cases h
   case h_3=>cases h
   rename_i ay az A;simp only[aB,aN]at h;obtain⟨rfl,rfl⟩:=h;have aA:ay.full:=fun f l D=>az f l (by rw[D]);rw[cg]at A;have x:=e j;refine⟨id,fun _=>?_⟩;rw[q]at x;obtain⟨a,c,aD,aG,_,aH⟩:=x.pW;have aI:c≠0:=by
    have:n+1≤c:=aG;omega
   rcases aH with W|⟨O,K,s,a5⟩
   ·exact absurd W aI
   subst s;obtain⟨ag,aJ,U,aK⟩:=g.mark A K;subst aw;rw[q];refine hH ⟨_,_,?_,Yz w (g.Yw A rfl K) _ _,fun _=>⟨β,x,U,aK⟩⟩;rw[aD];have aM:¬aF.shr O.c:=((g.Yx A rfl K).tD aA).2;simp[convert,cN X,cN ax,markStringish,at',aJ,WQ,aM]
  rename_i k X;have x:=e j;cases F:ev j with
  |num n=>
   rw[F]at h x;simp only[xh]at h;obtain⟨m,q⟩:=Xr h;refine⟨m.ok,fun ok=>?_⟩;refine hH (Does.pure g m (v:=.int k (k.wrap n.z.v)) ?_ (aC.oS (q ok)));rw[x.num_inv];simp[convert,cN au,cN X,bh.val,Conv.intToInt]
  |_=>rw[F]at h;simp[xh]at h
 case sliceToArrayPointer t j=>
  obtain⟨m,h2⟩:=Y2 h (e j) g;exact⟨m.ok,fun ok=>hH (h2 ok)⟩
 case makeInterface t j=>
  unfold BY at h;split at h
  ·cases h
  ·cases h
  rename_i d aO aP;simp only[aB,aN]at h;obtain⟨rfl,rfl⟩:=h;refine⟨id,fun _=>?_⟩;refine hH (Does.pure g (Pure.refl _) (v:=.iface t (ρ j)) ?_ (.ig t _ _ (e j)));cases d<;>first|(simp[Instr.makeInterface,cN aP];done)|(exact absurd rfl (aO _))
 case makeFunc fn first captured=>
  simp only[aB,aN]at h;obtain⟨rfl,rfl⟩:=h;refine⟨id,fun _=>?_⟩;have h1:=CE e first.toList;have h2:=CE e captured.toList;have h3:=h1.append h2;refine hH (Does.pure g (Pure.refl _) (v:=.func fn ⟨first.toList.map ρ⟩ ⟨captured.toList.map ρ⟩) ?_ (.fn fn _ _ _ _ h1.1.symm h3.1 h3.2));have aQ:first.map ρ=⟨first.toList.map ρ⟩:=by apply jO;simp
  have aS:captured.map ρ=⟨captured.toList.map ρ⟩:=by apply jO;simp
  rw[←aQ,←aS];rfl
 case makeSlice t l c=>
  obtain⟨h1,h2⟩:=YP h (e l) (e c) g;exact⟨h1,fun ok=>hH (h2 ok)⟩
 case slice t j lo hi aT=>
  obtain⟨m,h2⟩:=YI h (e j) (Jw e lo) (Jw e hi) (Jw e aT) g;exact⟨m.ok,fun ok=>hH (h2 ok)⟩
 case fieldAddr t j f=>
  obtain⟨r,y⟩:=tH h;clear h;have h:=r;clear r;subst y;exact⟨id,fun _=>hH (YG h (e j) g)⟩
 case field t j f=>
  obtain⟨r,y⟩:=tH h;clear h;have h:=r;clear r;subst y;exact⟨id,fun _=>hH (Y0 h (e j) g)⟩
 case indexAddr t j i=>
  obtain⟨m,h2⟩:=YF h (e j) (e i) g;exact⟨m.ok,fun ok=>hH (h2 ok)⟩
 case index t j i=>
  obtain⟨m,h2⟩:=Y1 h (e j) (e i) g;exact⟨m.ok,fun ok=>hH (h2 ok)⟩
 case extract t i=>
  unfold BZ at h;split at h
  case h_2=>cases h
  rename_i aj aU;obtain⟨r,y⟩:=tH h;clear h;have h:=r;clear r;subst y;have I:=e t;rw[aU]at I;obtain⟨vs,q,T⟩:=I.Yq;rw[cg]at h;obtain⟨v,h1,h2⟩:=T.get h;refine⟨id,fun _=>hH (Does.pure g (Pure.refl _) (v:=v) ?_ h2)⟩;rw[q];simp[Instr.extract,h1]
def Zl{C:eK}{c:Call}{ev:Operand→af}{ρ:Operand→Value}{Q:af}{d:Oper}{S R:ai}(m:d.op=.call c)(h:xo C c ev S=some (Q,R))(n:∀Q,aC β (ev Q) (ρ Q))(f:aL G β S.H w):
 (R.ok→S.ok)∧(R.ok→qI C.P G β S w (execOp ρ d) Q R):=by
 unfold xo at h;split at h
 case h_2=>cases h
 rename_i b o;have g:=CE n c.args.toList;have p:c.args.map ρ=⟨c.args.toList.map ρ⟩:=by apply jO;simp
 have ex:∃l,execOp ρ d=builtin b c.argTypes d.type l ⟨c.args.toList.map ρ⟩:=by
  refine⟨c.args.map fun|.const _=>true|_=>false,?_⟩;simp only[execOp,m,resolve,o,p];rfl
 obtain⟨l,q⟩:=ex;rw[q];have r:c.argTypes=⟨c.argTypes.toList⟩:=rfl;generalize c.argTypes.toList=ts at *;rw[r];generalize lS ev c.args.toList=x at *;generalize c.args.toList.map ρ=vs at *;unfold BT at h;split at h
 ·obtain⟨a,e⟩:=tH h;clear h;have h:=a;clear a;subst e;exact⟨id,fun _=>hH (Y3 h g f)⟩
 ·obtain⟨a,e⟩:=tH h;clear h;have h:=a;clear a;subst e;exact⟨id,fun _=>hH (Y4 h g f)⟩
 ·obtain⟨h1,h2⟩:=Zi (P:=C.P) (ty:=d.type) h g f;exact⟨h1,fun ok=>hH (h2 ok)⟩
 ·obtain⟨h1,h2⟩:=YW (P:=C.P) (ty:=d.type) h g f;exact⟨h1,fun ok=>hH (h2 ok)⟩
 ·split at h
  case h_2=>cases h
  obtain⟨a,e⟩:=tH h;clear h;have h:=a;clear a;subst e;obtain⟨s,t,rfl,i,j⟩:=g.cons_inv;obtain⟨u,v,rfl,k,bf⟩:=j.cons_inv;have:=bf.r9;subst this;have:=P1 (P:=C.P) (w:=w) (G:=G) (S:=R) (ty:=d.type) (ts:=⟨ts⟩) h i k f;exact⟨id,fun _=>hH this⟩
 ·split at h
  case h_2=>cases h
  obtain⟨a,e⟩:=tH h;clear h;have h:=a;clear a;subst e;obtain⟨s,t,rfl,i,j⟩:=g.cons_inv;obtain⟨u,v,rfl,k,bf⟩:=j.cons_inv;have:=bf.r9;subst this;have:=P1 (P:=C.P) (w:=w) (G:=G) (S:=R) (ty:=d.type) (ts:=⟨ts⟩) h i k f;exact⟨id,fun _=>hH this⟩
 ·cases h
end
end
section
variable [aR][aF]
def ai.cV(Q:List ah)(low:Nat)(cs:List Bool)(S:ai):ai:=⟨Q,low,S.dec,S.cond++cs⟩
def dR{a:Type}(Q:List ah)(low:Nat)(cs:List Bool)(p:a×ai):a×ai:=(p.1,p.2.cV Q low cs)
section
variable{Q:List ah}{low:Nat}{cs:List Bool}{S:ai}
def Zm(b:B):b.test (S.cV Q low cs)=(b.test S).map (dR Q low cs):=by
 cases b with
 |c b=>rfl|s b=>
  simp only[B.test,ai.cV];cases S.dec<;>rfl
def nD(b:B):b.cj (S.cV Q low cs)=(b.cj S).map (ai.cV Q low cs):=by
 cases b with
 |c b=>cases b<;>rfl
 |s b=>rfl
def Ad(v:Option af):val (S.cV Q low cs) v=(val S v).map (dR Q low cs):=by cases v<;>rfl
def Zn(a:BinOp)(n:Nat)(mk:BitVec n→af)(b c:BitVec n):zf a n mk b c (S.cV Q low cs)=(zf a n mk b c S).map (dR Q low cs):=by
 unfold zf;cases Ii a<;>rfl
def P6{n:Nat}(mk:BitVec n→af)(c:BinOp)(a b:Option (BitVec n)):oB mk c a b (S.cV Q low cs)=(oB mk c a b S).map (dR Q low cs):=by
 cases a<;>cases b<;>simp[oB,Zn]
def Zo(a:BinOp)(n:Nat)(mk:BitVec n→af)(b:BitVec n)(c:Nat):BC a n mk b c (S.cV Q low cs)=(BC a n mk b c S).map (dR Q low cs):=by
 unfold BC;cases Ij a<;>rfl
def Zp{n:Nat}(mk:BitVec n→af)(b:BinOp)(d:BitVec n)(a:Z):td mk b d a (S.cV Q low cs)=(td mk b d a S).map (dR Q low cs):=by
 unfold td;rw[nD];cases((Z.c 0).le a).cj S<;>simp[Zo]
def Zq(c:BinOp)(k:IntKind)(a b:Int):uN c k a b (S.cV Q low cs)=(uN c k a b S).map (dR Q low cs):=by
 unfold uN BF;cases c<;>rfl
def Zr(a:BinOp)(k:IntKind)(b c:Z):intArith a k b c (S.cV Q low cs)=(intArith a k b c S).map (dR Q low cs):=by
 unfold intArith;cases qz a with
 |some f=>rfl|none=>
  cases b<;>cases c<;>simp only[Zq];cases BE a with
  |none=>rfl|some f=>dsimp only;cases f k _ _<;>rfl
def Zs(k:IntKind)(z:Z)(d:BinOp)(e:Z):zg k z d e (S.cV Q low cs)=(zg k z d e S).map (dR Q low cs):=by
 unfold zg;cases e with
 |s _=>rfl|c b=>
  dsimp only;cases kL 0 b with
  |false=>rfl|true=>
   cases z with
   |c a=>dsimp only;cases BG d k a b.toNat<;>rfl
   |s a=>
    dsimp only;cases Nat.blt b.toNat k.bits with
    |false=>rfl|true=>cases d<;>rfl
def Zt(a:bh)(b:BinOp)(c:Z):BH a b c (S.cV Q low cs)=(BH a b c S).map (dR Q low cs):=by
 cases a<;>simp only[BH,Zs,Zp]
def Zu(k:IntKind)(a:Z)(b:bh)(c:BinOp):BI k a b c (S.cV Q low cs)=(BI k a b c S).map (dR Q low cs):=by
 cases b<;>simp only[BI,P6];cases rQ k _<;>simp[Zr]
def Zv(a b:bh)(c:BinOp):zh a b c (S.cV Q low cs)=(zh a b c S).map (dR Q low cs):=by
 cases a<;>simp only[zh,Zu,P6]
def Zw(a:BinOp)(b c:af):binop a b c (S.cV Q low cs)=(binop a b c S).map (dR Q low cs):=by
 unfold binop;cases b<;>try rfl
 cases c<;>try rfl
 dsimp only;cases Ik a<;>simp only[Zt,Zv]
def Zx(P:Program)(c:BinOp)(t:TypeId)(d e:Operand)(a b:af):zz P c t d e a b (S.cV Q low cs)=(zz P c t d e a b S).map (dR Q low cs):=by
 unfold zz;rw[Zw];cases binop c a b S with
 |some r=>rfl|none=>
  simp only[Option.map_none];cases BS P t (isConst d||isConst e) a b with
  |none=>rfl|some r=>cases c<;>rfl
def Zy(k:IntKind)(n:Nat)(a b c d:af):uO k n a b c d (S.cV Q low cs)=(uO k n a b c d S).map (dR Q low cs):=by cases k<;>rfl
def Zz(n:Int)(k:IntKind):BJ n k (S.cV Q low cs)=(BJ n k S).map (dR Q low cs):=by cases k<;>rfl
def ZA(v:bh)(k:IntKind):xg v k (S.cV Q low cs)=(xg v k S).map (dR Q low cs):=by
 cases v with
 |int _ z=>cases z<;>simp only[xg,Zz];rfl
 |_=>simp only[xg,Zy]
def ZB(v:af)(k:IntKind):xh v k (S.cV Q low cs)=(xh v k S).map (dR Q low cs):=by
 cases v<;>simp only[xh,ZA]<;>rfl
def ZC(C:eK)(a:TypeId)(same:Bool)(v:af)(c:same=true→∀b,EF v=some b→aU b Q=aU b S.H):zA C a same v (S.cV Q low cs)=(zA C a same v S).map (dR Q low cs):=by
 unfold zA;cases same with
 |false=>rfl|true=>
  dsimp only;cases C.P.underlying a with
  |none=>rfl|some d=>
   cases d<;>try rfl
   rename_i k;cases k<;>try rfl
   dsimp only;split
   ·rename_i b _ _ _;have h:=c rfl b rfl
    show(match aU b Q with|some ⟨.lim ..,.own⟩=>_|some ⟨_,.own⟩=>_|_=>_)=_;rw[h];cases aU b S.H with
    |none=>rfl|some k=>obtain⟨d,m⟩:=k;cases m<;>cases d<;>rfl
   ·rfl
def P7(C:eK)(a c:TypeId)(v:af)(e:Nat.beq a c=true→∀b,EF v=some b→aU b Q=aU b S.H):zB C a c v (S.cV Q low cs)=(zB C a c v S).map (dR Q low cs):=by
 unfold zB;cases C.P.underlying a with
 |none=>rfl|some _=>
  dsimp only;cases f:C.P.underlying c with
  |none=>rfl|some d=>cases d<;>first|exact ZB .. |exact ZC _ _ _ _ e|rfl
def ZD(c a b:af):BU c a b (S.cV Q low cs)=(BU c a b S).map (dR Q low cs):=by
 unfold BU;cases c<;>try rfl
 rename_i at';cases at'<;>try rfl
 simp only[Zm];rename_i t;cases e:t.test S with
 |none=>rfl|some p=>obtain⟨d,f⟩:=p;cases d<;>rfl
def ZE(gv:Nat→String→Option FuncId)(v:af):BX gv v (S.cV Q low cs)=(BX gv v S).map (dR Q low cs):=by
 unfold BX
 repeat' split
 all_goals rfl
def ZF(P:Program)(t:TypeId)(a:af):zx P t a (S.cV Q low cs)=(zx P t a S).map (dR Q low cs):=by
 unfold zx;cases P.underlying t with
 |none=>rfl|some d=>
  cases d<;>try rfl
  rename_i n e;cases n<;>try rfl
  cases a<;>try rfl
  rename_i r;cases r<;>try rfl
  simp only[nD];rename_i n b f l g;cases(N.le (.c (n+1)) l).cj S<;>rfl
def ZG(C:eK)(t:TypeId)(v:af):BY C t v (S.cV Q low cs)=(BY C t v S).map (dR Q low cs):=by
 unfold BY;cases C.P.underlying t with
 |none=>rfl|some d=>cases d<;>rfl
def ZH(b:Nat)(e len:N)(d:Option N)(lo hi a:Option af):BL b e len d lo hi a (S.cV Q low cs)=(BL b e len d lo hi a S).map (dR Q low cs):=by
 unfold BL;cases bound lo (.c 0)with
 |none=>rfl|some l=>
  dsimp only;cases bound hi len with
  |none=>rfl|some h=>
   cases d with
   |none=>
    cases a with
    |some _=>rfl|none=>
     simp only[nD];cases(gW l h len.toZ).cj S<;>rfl
   |some c=>
    cases a with
    |none=>
     simp only[nD];cases(gW l h c.toZ).cj S<;>rfl
    |some m=>
     dsimp only;cases m.bF with
     |none=>rfl|some m=>
      cases hi with
      |none=>rfl|some _=>
       simp only[nD];cases(B.and (gW l h m) (m.le c.toZ)).cj S<;>rfl
def ZI(P:Program)(t:TypeId)(a i:af):zo P t a i (S.cV Q low cs)=(zo P t a i S).map (dR Q low cs):=by
 unfold zo;cases i.bF with
 |none=>rfl|some z=>
  dsimp only;cases P.underlying t with
  |none=>rfl|some d=>
   cases d with
   |array n e=>
    dsimp only;cases ej P e with
    |none=>rfl|some f=>
     simp only[nD];cases(jS z (.c n)).cj S with
     |none=>rfl|some k=>
      cases a with
      |ref r=>cases r<;>rfl
      |_=>rfl
   |slice e=>
    dsimp only;cases ej P e with
    |none=>rfl|some f=>
     cases a with
     |ref r=>
      cases r with
      |sl b h l c=>
       simp only[nD];cases(jS z l.toZ).cj S<;>rfl
      |gs g h l=>
       simp only[nD];cases(jS z l.toZ).cj S<;>rfl
      |sm b l j=>
       simp only[nD];cases Nat.beq j f with
       |false=>rfl|true=>cases(jS z l.toZ).cj S<;>rfl
      |_=>rfl
     |_=>rfl
   |_=>rfl
def ZJ(P:Program)(t:TypeId)(e i:af):zw P t e i (S.cV Q low cs)=(zw P t e i S).map (dR Q low cs):=by
 unfold zw;cases i.bF with
 |none=>rfl|some z=>
  dsimp only;cases P.underlying t with
  |none=>rfl|some d=>
   cases d with
   |string=>
    cases e with
    |atom a=>
     cases a with
     |str f=>
      cases z with
      |c z=>
       dsimp only;split<;>try rfl
       split<;>rfl
      |s k=>
       simp only[nD];cases(jS (.s k) (.c f.size)).cj S<;>rfl
     |_=>rfl
    |_=>rfl
   |array n g=>
    cases e<;>try rfl
    cases z with
    |s k=>
     dsimp only;cases ej P g with
     |none=>rfl|some f=>
      dsimp only;cases nk P g with
      |none=>rfl|some b=>
       cases b with
       |true=>rfl|false=>
        dsimp only;rename_i h;cases cU af.fE h with
        |none=>rfl|some l=>
         dsimp only;cases Nat.beq f 1&&Nat.beq l.length n with
         |false=>rfl|true=>
          simp only[nD];cases(jS (.s k) (.c n)).cj S<;>rfl
    |c z=>
    dsimp only;split<;>try rfl
    split<;>try rfl
    simp only[Oj];rfl
   |_=>rfl
def ZK(v:af)(i:Nat):BZ v i (S.cV Q low cs)=(BZ v i S).map (dR Q low cs):=by
 unfold BZ;cases v<;>try rfl
 rename_i t a;cases t<;>simp only[Ad]<;>rfl
def P8(d:Data)(a:N):d.mD a (S.cV Q low cs)=(d.mD a S).map (dR Q low cs):=by
 cases d<;>try rfl
 cases a<;>simp only[Data.mD,Oj]<;>rfl
def P9(d:Data)(a:N):d.get a (S.cV Q low cs)=(d.get a S).map (dR Q low cs):=by
 unfold Data.get;rw[P8];cases d.mD a S with
 |some r=>rfl|none=>
  cases d.words with
  |none=>
   show d.zk a (S.cV Q low cs)=(d.zk a S).map (dR Q low cs);unfold Data.zk;cases d.mid<;>rfl
  |some b=>exact P8 b a
def Qa(d:Data)(n:Nat)(a:N):d.mF n a (S.cV Q low cs)=(d.mF n a S).map (dR Q low cs):=by
 cases d<;>try rfl
 cases a<;>simp only[Data.mF,Oj]<;>rfl
def ZL(d:Data)(n:Nat)(a:N):d.cells n a (S.cV Q low cs)=(d.cells n a S).map (dR Q low cs):=by
 unfold Data.cells;rw[Qa];cases d.mF n a S with
 |some r=>rfl|none=>
  cases d.words with
  |none=>rfl|some b=>exact Qa b n a
end
end
section
variable [aR][aF]
variable{b:Nat}{V:Type}{U:Op}{S':ai}{Q:Nat}
structure Ext(S S':ai):Prop where
 ok:S'.ok→S.ok
 low:S'.low≤S.low
 len:S.H.length≤S'.H.length
 same:∀b,b<S.H.length→b<S'.low→aU b S'.H=aU b S.H
 bn:∀b k,aU b S.H=some k→k.mode=.bn→aU b S'.H=some k
 ro:∀b k,aU b S'.H=some k→k.mode=.ro→aU b S.H=some k
def sj{l:List V}{k:V}(h:aU b l=some k):b<l.length:=by
 rw[cg]at h;rcases cv b l.length with a|a
 ·exact a
 ·rw[di a]at h;cases h
def Ext.refl(S:ai):Ext S S:=⟨id,aX _,aX _,fun _ _ _=>rfl,fun _ _ h _=>h,fun _ _ h _=>h⟩
def Ext.trans{a b c:ai}(h:Ext a b)(k:Ext b c):Ext a c:=
 ⟨fun Q=>h.ok (k.ok Q),gb k.low h.low,gb h.len k.len,fun d e i=>(k.same d (dL e h.len) i).trans (h.same d e (dL i k.low)),
  fun d f e g=>k.bn d f (h.bn d f e g) g,fun d f e g=>h.ro d f (k.ro d f e g) g⟩
def Pure.ext{S:ai}(h:Pure S S'):Ext S S':=
 ⟨h.ok,pJ h.low,by rw[h.H];exact aX _,fun b _ _=>by rw[h.H],fun b k a _=>by rw[h.H];exact a,fun b k a _=>by rw[←h.H];exact a⟩
def kS(v:V)(b a:Nat)(l:List V):aU a (fe v b l)=if b=a∧b<l.length then some v else aU a l:=by
 rw[cg,cg,iO,Bn];by_cases c:b=a
 ·subst c;by_cases h:b<l.length
  ·simp[h]
  ·simp[h]
 ·simp[c]
def ZM(v:V)(a:Nat)(l:List V):aU a (l++[v])=if a=l.length then some v else aU a l:=by
 rw[cg,cg];rcases w6 a l.length with h|h|h
 ·rw[iE h];simp[show a≠l.length by omega]
 ·subst h;simp
 ·rw[ie (by omega),di (by simp;omega),ak (by omega),di (by omega)]
def CF{S:ai}{d:Data}(h:S.write b d=some S'):Ext S S':=by
 unfold ai.write at h;split at h
 ·rename_i j m f;split at h
  ·simp only[aB]at h;subst h;refine⟨fun Q=>Q,Br _ _,by simp[iO],fun c a g=>?_,fun c k a e=>?_,fun c k a e=>?_⟩
   ·have:c<b:=dL g (Bs _ _);rw[kS,ak (by omega)]
   ·rw[kS];split
    ·rename_i i;obtain⟨rfl,_⟩:=i;rw[f]at a;injection a with a;subst a;cases e
    ·exact a
   ·rw[kS]at a;split at a
    ·injection a with a;subst a;cases e
    ·exact a
  ·cases h
 ·cases h
def Qb(S:ai)(b:Nat)(e:∀k,aU b S.H=some k→k.mode≠.bn):Ext S (S.kill b):=by
 refine⟨fun Q=>Q,Br _ _,by simp[ai.kill,iO],fun c a f=>?_,fun c k a d=>?_,fun c k a d=>?_⟩
 ·have:c<b:=dL f (Bs _ _);simp only[ai.kill];rw[kS,ak (by omega)]
 ·simp only[ai.kill];rw[kS];split
  ·rename_i g;obtain⟨rfl,_⟩:=g;exact absurd d (e k a)
  ·exact a
 ·simp only[ai.kill]at a;rw[kS]at a;split at a
  ·injection a with a;subst a;cases d
  ·exact a
def qJ(S:ai)(d:Data):Ext S (S.new d).2:=by
 have e:∀c,aU c (S.new d).2.H=if c=S.H.length then some ⟨d,.own⟩else aU c S.H:=fun c=>ZM _ c S.H
 refine⟨fun Q=>Q,aX _,by simp[ai.new],fun c a _=>?_,fun c k a f=>?_,fun c k a f=>?_⟩
 ·rw[e,ak (by omega)]
 ·have:=sj a;rw[e,ak (by omega)];exact a
 ·rw[e]at a;split at a
  ·injection a with a;subst a;cases f
  ·exact a
def vA{f:ai→Option (V×ai)}{S:ai}{a:V}
 (c:∀(T:ai) cs,T.H=S.H→T.low=S.low→f (T.cV S.H S.low cs)=(f T).map (dR S.H S.low cs)) (h:f S=some (a,S')):Pure S S':=by
 have h1:=c ⟨S.H,S.low,S.dec,[]⟩ S.cond rfl rfl;have h2:(⟨S.H,S.low,S.dec,[]⟩:ai).cV S.H S.low S.cond=S:=rfl;rw[h2,h]at h1;cases h3:f ⟨S.H,S.low,S.dec,[]⟩with
 |none=>rw[h3]at h1;cases h1
 |some p=>
  rw[h3]at h1;simp only[ia,aB,dR,aN]at h1;obtain⟨_,rfl⟩:=h1;exact⟨rfl,rfl,fun Q b d=>Q b (by simp[ai.cV,d])⟩
def Ae:Op→Bool
 |.move _|.assign _|.pick .. |.build .. |.nilCheck _|.binOp .. |.unOp .. |.sliceToArrayPointer .. |.makeInterface .. |.makeFunc ..|.fieldAddr .. |.field .. |.indexAddr .. |.index .. |.extract .. =>true|.convert a d _=> !Nat.beq a d|.call c=>
  match c.callee with
  |.builtin b=>
   match b with
   |.len|.cap|.min|.max=>true|_=>false
  |_=>false
 |_=>false
def isRead:Op→Bool|.load .. =>true|.slice .. =>true|.convert a d _=>Nat.beq a d|_=>false
section
variable{C:eK}{call:gf}{ev:Operand→af}{R:List ah}{low:Nat}{cs:List Bool}{S:ai}
def FM(h:Ae U=true):ee C call ev U (S.cV R low cs)=(ee C call ev U S).map (dR R low cs):=by
 cases U<;>simp only[Ae,m8]at h<;>(try dsimp only[ee,nq])
 all_goals first
  |rfl|exact ZD ..|exact ZE ..|exact Zx ..|exact P7 _ _ _ _ (fun a=>by rw[a]at h;cases h)
  |exact ZF ..|exact ZG ..|exact Ad ..|exact ZI ..|exact ZJ ..|exact ZK ..|skip
 rename_i c;obtain⟨callee,args,d⟩:=c;cases callee<;>simp only[m8]at h;rename_i b;cases b<;>simp only[m8]at h<;>simp only[uV,B0,xo,BT]
 ·exact Ad ..
 ·exact Ad ..
 ·split<;>first|exact Ad .. |rfl
 ·split<;>first|exact Ad .. |rfl
def Jx(h:aU b R=aU b S.H):(S.cV R low cs).read b=S.read b:=by
 unfold ai.read;rw[show(S.cV R low cs).H=R from rfl,h]
def ZN(G:Nat→Option (List af))(a:af)(h:∀b,rT a=some b→aU b R=aU b S.H):uQ G a (S.cV R low cs)=(uQ G a S).map (dR R low cs):=by
 unfold uQ;cases a with
 |ref r=>
  cases r with
  |ptr b Q=>
   dsimp only;rw[Jx (h b rfl)];cases S.read b with
   |none=>rfl|some d=>exact P9 d Q
  |eE g Q=>
   dsimp only;cases G g with
   |none=>rfl|some l=>exact P9 _ Q
  |_=>rfl
 |_=>rfl
def ZO(G:Nat→Option (List af))(a:af)(n:Nat)(h:∀b,rT a=some b→aU b R=aU b S.H):rR G a n (S.cV R low cs)=(rR G a n S).map (dR R low cs):=by
 unfold rR;cases a with
 |ref r=>
  cases r with
  |ptr b Q=>
   dsimp only;rw[Jx (h b rfl)];cases S.read b with
   |none=>rfl|some d=>exact ZL d n Q
  |eE g Q=>
   cases Q with
   |c Q=>
    dsimp only;cases n with
    |zero=>rfl|succ n=>
     cases G g with
     |none=>rfl|some l=>simp only[Oj];rfl
   |s _=>rfl
  |_=>rfl
 |_=>rfl
def Qc(P:Program)(G:Nat→Option (List af))(t:TypeId)(a:af)(h:∀b,rT a=some b→aU b R=aU b S.H):oF P G t a (S.cV R low cs)=(oF P G t a S).map (dR R low cs):=by
 unfold oF;cases nk P t with
 |none=>rfl|some b=>
  cases b with
  |true=>
   dsimp only;cases ej P t with
   |none=>rfl|some n=>
    dsimp only;rw[ZO G a n h];cases rR G a n S<;>rfl
  |false=>exact ZN G a h
def ZP(n a b:Nat)(Q:N)(lo hi e:Option af)(h:aU b R=aU b S.H):zp n a b Q lo hi e (S.cV R low cs)=(zp n a b Q lo hi e S).map (dR R low cs):=by
 unfold zp;cases bound lo (.c 0)with
 |none=>rfl|some l=>
  dsimp only;cases bound hi (.c n)with
  |none=>rfl|some f=>
   cases e with
   |some _=>rfl|none=>
    dsimp only;rw[Jx h];cases S.read b with
    |none=>rfl|some d=>
     simp only[nD];cases((Q.add (.c (n*a))).le d.jx).cj S with
     |none=>rfl|some g=>
      simp only[ia,nD];cases(gW l f (.c n)).cj g<;>rfl
def ZQ(P:Program)(t:TypeId)(e:af)(lo hi g:Option af)(h:B1 P t=true→∀b,rT e=some b→aU b R=aU b S.H):xj P t e lo hi g (S.cV R low cs)=(xj P t e lo hi g S).map (dR R low cs):=by
 unfold xj;cases j:P.underlying t with
 |none=>rfl|some d=>
  cases d with
  |array n i=>
   cases e with
   |ref r=>
    cases r with
    |ptr b Q=>
     dsimp only;cases ej P i with
     |none=>rfl|some f=>
      cases f with
      |zero=>rfl|succ f=>exact ZP _ _ b Q lo hi g (h (by simp[B1,j]) b rfl)
    |_=>rfl
   |_=>rfl
  |slice i=>
   cases e with
   |ref r=>
    cases r with
    |sl b Q l c=>
     dsimp only;cases ej P i with
     |none=>rfl|some f=>
      rcases f with _|_|f
      ·rfl
      ·exact ZH ..
      ·rfl
    |_=>rfl
   |atom a=>
    cases a with
    |cI=>
     dsimp only;cases g with
     |some _=>rfl|none=>
      cases ej P i with
      |none=>rfl|some _=>
       dsimp only;cases bound lo (.c 0)with
       |none=>rfl|some l=>
        dsimp only;cases bound hi (.c 0)with
        |none=>rfl|some k=>
         simp only[nD];cases(gW l k (.c 0)).cj S<;>rfl
    |_=>rfl
   |_=>rfl
  |_=>rfl
def CG(h:isRead U=true)(a:∀b,mI C.P ev U=some b→aU b R=aU b S.H):ee C call ev U (S.cV R low cs)=(ee C call ev U S).map (dR R low cs):=by
 cases U<;>simp only[isRead,m8]at h
 case convert g d i=>exact P7 _ _ _ _ (fun e b c=>a b (by simp only[mI,e];exact c))
 ·exact Qc _ _ _ _ a
 ·exact ZQ _ _ _ _ _ _ fun f b c=>a b (by simp only[mI,f];exact c)
def cellOf(Q:Nat)(k:Option ah):Option ah ⊕ (af×Mode):=
 match k with
 |some ⟨.gen l,m⟩=>
  match aU Q l with
  |some a=>.inr (a,m)|none=>.inl none
 |k=>.inl k
def ZR{k:Option ah}{a:af}{m:Mode}(h:cellOf Q k=.inr (a,m)):∃l,k=some ⟨.gen l,m⟩∧aU Q l=some a:=by
 unfold cellOf at h;split at h
 ·split at h
  ·rename_i c;simp only[Sum.inr.injEq,aN]at h;obtain⟨rfl,rfl⟩:=h;exact⟨_,rfl,c⟩
  ·cases h
 ·cases h
def Jy{P:Program}{ev:Operand→af}{S:ai}(h:tr P ev U S=some (b,Q)):∃t a l m d,U=.load t a∧nk P t=some false∧ev a=.ref (.ptr b (.c Q))∧aU b S.H=some ⟨.gen l,m⟩∧aU Q l=some d:=by
 unfold tr at h
 repeat'(split at h)
 all_goals(try(cases h;done))
 rename_i d e;simp only[aB,aN]at h;obtain⟨rfl,rfl⟩:=h;exact⟨_,_,_,_,d,rfl,by assumption,by assumption,by assumption,e⟩
def ZS(h:tr C.P ev U S=some (b,Q))(c:cellOf Q (aU b R)=cellOf Q (aU b S.H)):ee C call ev U (S.cV R low cs)=(ee C call ev U S).map (dR R low cs):=by
 obtain⟨t,a,l,m,d,rfl,h1,h2,h3,h4⟩:=Jy h;have e:cellOf Q (aU b S.H)=.inr (d,m):=by rw[h3];simp only[cellOf,h4]
 obtain⟨f,g,i⟩:=ZR (c.trans e);have j:aU b (S.cV R low cs).H=some ⟨.gen f,m⟩:=g;simp only[ee,nq,h2,oF,h1,uQ,ai.read,h3,j];cases m<;>simp only[Data.get,Data.mD,h4,i,ia,Option.map_none]<;>rfl
end
end
section
variable [aR][aF]
variable{Q:af}{P:Program}{t:TypeId}{W:List TypeId}{X:List af}{U:Op}{v:af}{n:N}{l c:af}
section
variable{C:eK}{call:gf}{ev:Operand→af}{S R:ai}
def ZT{a:af}(h:zm P t a v S=some R):Ext S R:=by
 unfold zm at h
 repeat'(split at h)
 all_goals first
  |(cases h;done)
  |(rename_i b;exact(Data.pX b).1.ext.trans (CF h))|(rename_i b;exact(Data.Jl b).1.ext.trans (CF h))
def Af{d:Data}(h:lm Q n S=some (d,R)):Pure S R:=by
 unfold lm at h
 repeat'(split at h)
 all_goals first
  |(cases h;done)
  |exact(Data.vw h).1|(simp only[aB,aN]at h;obtain⟨_,rfl⟩:=h;exact Pure.refl _)
def ZU{b:Nat}{e l:N}{f:Option N}{g:Data}(h:zu b e l f n g S=some (Q,R)):Ext S R:=by
 unfold zu at h
 repeat'(split at h)
 all_goals(try(cases h;done))
 all_goals(simp only[aB,aN]at h;obtain⟨_,rfl⟩:=h)
 ·exact(Data.pX ‹Data.over _ _ _ _=some _›).1.ext.trans (CF ‹ai.write _ _ _=some _›)
 ·exact(Data.vw ‹Data.sub _ _ _ _=some _›).1.ext.trans (qJ _ _)
 ·exact(B.oM ‹B.test _ _=some _›).1.ext.trans ((B.fU ‹B.cj _ _=some _›).1.ext.trans ((Data.pX ‹Data.over _ _ _ _=some _›).1.ext.trans (CF ‹ai.write _ _ _=some _›)))
 ·exact(B.oM ‹B.test _ _=some _›).1.ext.trans ((Data.vw ‹Data.sub _ _ _ _=some _›).1.ext.trans (qJ _ _))
 ·have d:=(B.fU ‹B.cj _ _=some _›).1;have i:=‹aU b S.H=some _›;exact(d.ext.trans (Qb _ _ fun k a=>by rw[d.H,i]at a;injection a with a;subst a;simp)).trans (qJ _ _)
def ZV(h:BM P W X S=some (Q,R)):Ext S R:=by
 unfold BM at h
 repeat'(split at h)
 all_goals(try(cases h;done))
 ·simp only[aB,aN]at h;obtain⟨_,rfl⟩:=h;exact(Af ‹lm _ _ _=some _›).ext
 ·simp only[aB,aN]at h;obtain⟨_,rfl⟩:=h;exact((Af ‹lm _ _ _=some _›).trans (B.fU ‹B.cj _ _=some _›).1).ext.trans (qJ _ _)
 ·exact((Af ‹lm _ _ _=some _›).trans (B.fU ‹B.cj _ _=some _›).1).ext.trans (ZU h)
def ZW{e bytes:Nat}{cs:List af}{r:af}(h:BN Q e bytes cs S=some (r,R)):Ext S R:=by
 unfold BN at h
 repeat'(split at h)
 all_goals(try(cases h;done))
 ·simp only[aB,aN]at h;obtain⟨_,rfl⟩:=h;exact(B.fU ‹B.cj _ _=some _›).1.ext.trans (qJ _ _)
 ·simp only[aB,aN]at h;obtain⟨_,rfl⟩:=h;have b:=(B.fU ‹B.cj (N.eq _ _) _=some _›).1;have d:=(B.fU ‹B.cj (N.fits _) _=some _›).1;have f:=‹aU _ _=some _›;exact(b.trans d).ext.trans ((Qb _ _ (by
   rw[(b.trans d).H];intro k a;rw[f]at a;injection a with a;subst a;intro h;cases h)).trans (qJ _ _))
def ZX(h:BO P W X S=some (Q,R)):Ext S R:=by
 unfold BO at h;split at h
 ·rename_i r a;cases h;exact ZV a
 ·unfold Im at h
  repeat'(split at h)
  all_goals(try(cases h;done))
  exact ZW h
def ZY(h:zv P W X S=some (Q,R)):Ext S R:=by
 unfold zv at h
 repeat'(split at h)
 all_goals(try(cases h;done))
 all_goals(simp only[aB,aN]at h;obtain⟨_,rfl⟩:=h)
 ·exact(((Af ‹lm _ _ _=some _›).trans (Data.pX ‹Data.over _ _ _ _=some _›).1).ext).trans (CF ‹ai.write _ _ _=some _›)
 ·exact(Af ‹lm _ _ _=some _›).ext
def Qd(h:tg P t l c S=some (Q,R)):Ext S R:=by
 unfold tg at h
 repeat'(split at h)
 all_goals(try(cases h;done))
 simp only[aB,aN]at h;obtain⟨_,rfl⟩:=h;have h1:=B.fU ‹B.cj (N.fits _) _=some _›;have h2:=B.fU ‹B.cj (gW _ _ _) _=some _›;exact(h2.1.trans h1.1).ext.trans (qJ _ _)
def ZZ(h:BP P t l c S=some (Q,R)):Ext S R:=by
 unfold BP at h;split at h
 ·rename_i r a;cases h;exact Qd a
 ·unfold EC at h
  repeat'(split at h)
  all_goals(try(cases h;done))
  simp only[aB,aN]at h;obtain⟨_,rfl⟩:=h;have h1:=B.fU ‹B.cj (N.fits _) _=some _›;have h2:=B.fU ‹B.cj (gW _ _ _) _=some _›;exact(h2.1.trans h1.1).ext.trans (qJ _ _)
def Qe{n:Nat}{a:List (Nat×af)}(h:th P t n a S=some (Q,R)):Ext S R:=by
 unfold th at h
 repeat'(split at h)
 all_goals(try(cases h;done))
 simp only[aB,aN]at h;obtain⟨_,rfl⟩:=h;exact qJ _ _
def Z0(h:BV C t S=some (Q,R)):Ext S R:=by
 unfold BV at h;split at h
 ·simp only[aB,aN]at h;obtain⟨_,rfl⟩:=h;exact qJ _ _
 ·cases h
def Z1(h:BW v S=some (Q,R)):Ext S R:=by
 unfold BW at h;split at h
 ·simp only[aB,aN]at h;obtain⟨_,rfl⟩:=h;exact qJ _ _
 ·cases h
def xQ(call:gf):Prop:=∀f args S v R,call f args S=some (v,R)→Ext S R
def CH(g:xQ call)(h:ee C call ev U S=some (Q,R)):Ext S R:=by
 cases d:Ae U with
 |true=>exact(vA (f:=ee C call ev U) (fun T cs _ _=>FM d) h).ext|false=>
  cases e:isRead U with
  |true=>exact(vA (f:=ee C call ev U) (fun T cs i _=>CG e (fun b _=>by rw[i])) h).ext|false=>
   cases U<;>simp only[Ae,isRead,reduceCtorEq]at d e<;>dsimp only[ee,nq]at h<;>(try(cases h;done))
   case convert=>rw[e]at d;cases d
   case alloc=>exact Z0 h
   case box=>exact Z1 h
   case buildSlice=>exact Qe h
   case makeSlice=>exact ZZ h
   case store t a v=>
    unfold EE at h;split at h
    ·rename_i h1;simp only[aB,aN]at h;obtain⟨_,rfl⟩:=h;exact ZT h1
    ·cases h
   case call c=>
    unfold uV at h;split at h
    ·unfold xo at h;split at h
     ·rename_i b j;cases b<;>simp only[j,reduceCtorEq]at d<;>simp only[BT]at h<;>first
       |(cases h;done)
       |exact ZX h|exact ZY h
     ·cases h
    ·split at h
     ·split at h
      ·simp only[aB,aN]at h;obtain⟨_,rfl⟩:=h;exact .refl _
      ·exact g _ _ _ _ _ h
     ·cases h
def kinds(U:Op):Ae U=true∨isRead U=true∨gh U=true∨kP U=true∨∀(C:eK) call ev S,ee C call ev U S=none:=by
 cases U<;>simp[Ae,isRead,gh,kP,ee,nq]
 case convert a d Q=>
  cases e:Nat.beq a d with
  |false=>exact .inl rfl|true=>exact .inr (.inl (rO e))
 rename_i c;obtain⟨callee,args,f⟩:=c;cases callee<;>simp;rename_i b;cases b<;>simp
end
section
variable{C:eK}{call:gf}{ev V:Operand→af}
def CI:∀{l:List Operand},(∀Q∈l,ev Q=V Q)→lS ev l=lS V l|[],_=>rfl|Q::l,h=>by simp[lS,h Q (lO ..),CI (l:=l) fun a b=>h a (m9 _ b)]
def FN:∀{l:List (Nat×Operand)},(∀p∈l,ev p.2=V p.2)→pO ev l=pO V l
 |[],_=>rfl|(i,Q)::l,h=>by
  have:=h (i,Q) (lO ..);simp only at this;simp[pO,this,FN (l:=l) fun a b=>h a (m9 _ b)]
def Jz{a:Option Operand}(h:∀Q∈a,ev Q=V Q):oI ev a=oI V a:=by
 cases a with
 |none=>rfl|some Q=>simp[oI,h Q rfl]
def Z2{c:Call}(h:∀Q∈c.operands,ev Q=V Q):callee C ev c=callee C V c:=by
 have d:lS ev c.args.toList=lS V c.args.toList:=CI fun Q e=>h Q (by simp[Call.operands,Ia.2 e]);unfold callee;rw[d];cases a:c.callee with
 |value f=>have:ev f=V f:=h f (by simp[Call.operands,a]);simp only[this]
 |invoke r m=>have:ev r=V r:=h r (by simp[Call.operands,a]);simp only[this]
 |builtin b=>rfl
def Z3(h:∀Q∈U.operands,ev Q=V Q)(S:ai):ee C call ev U S=ee C call V U S:=by
 cases U<;>simp only[Op.operands]at h<;>dsimp only[ee,nq]
 case call c=>
  unfold uV xo;rw[Z2 h];have g:lS ev c.args.toList=lS V c.args.toList:=CI fun Q a=>h Q (by simp[Call.operands,Ia.2 a]);rw[g]
 case build t i=>rw[FN fun p e=>h p.2 (by simp;exact⟨p.1,Wy.1 e⟩)]
 case buildSlice t n i=>rw[FN fun p e=>h p.2 (by simp;exact⟨p.1,Wy.1 e⟩)]
 case makeFunc fn first captured=>
  rw[CI (l:=first.toList) fun Q a=>h Q (by simp[Ia.2 a]),CI (l:=captured.toList) fun Q a=>h Q (by simp[Ia.2 a])]
 case slice t Q lo hi f=>
  have h1:ev Q=V Q:=h Q (by simp);have h2:oI ev lo=oI V lo:=Jz fun b d=>h b (by simp[Wz.1 d]);have h3:oI ev hi=oI V hi:=Jz fun b d=>h b (by simp[Wz.1 d]);have h4:oI ev f=oI V f:=Jz fun b d=>h b (by simp[Wz.1 d]);rw[h1,h2,h3,h4]
 all_goals(first|rfl|(simp_all;done))
def Z4(h:∀Q∈U.operands,ev Q=V Q):mI P ev U=mI P V U:=by
 cases U<;>simp only[Op.operands]at h<;>dsimp only[mI]
 case load t a=>rw[h a (by simp)]
 case slice t a lo hi b=>rw[h a (by simp)]
 case convert e d Q=>rw[h Q (by simp)]
end
end
section
variable [aR][aF]
variable{call:gf}{S S':ai}{x:af}{v:Value}{o:Oper}{ops:Array Oper}{b:Bool}
class oU where
 P5:List Deferred
instance Qf:oU:=⟨[]⟩
variable [oU]
structure cL(aj bC:Nat)(β:aE)(F:aI)(a:Act):Prop where
 val:∀t,aC β (F.get aj t) (a.tmps.getD t undef)
 size:a.tmps.size=bC
 defers:a.defers=oU.P5
section
variable{aj bC:Nat}{β R:aE}{F:aI}{a:Act}
def cL.mono(h:cL aj bC β F a)(c:aE.le β R):cL aj bC R F a:=⟨fun t=>(h.val t).mono c,h.size,h.defers⟩
def cL.ev(h:cL aj bC β F a)(x:Operand):aC β (F.ev aj x) (a.eval x):=by
 cases x with
 |tmp t=>exact h.val t|const v=>exact I5 β v|global g=>have:=aC.eE (β:=β) (2*g) (.c 0);rw[show gK (2*g) (N.c 0).v=at' g 0 from I3 g 0]at this;exact this
 |func f=>exact .fn (.func f) 0 [] [] [] rfl rfl (fun i x v d=>by simp at d)
def aI.Qg(aj:Nat)(F:aI){d t:Nat}(v:af)(h:t≠d):(F.put aj (some d) v).get aj t=F.get aj t:=by
 cases e:Nat.blt d aj with
 |true=>
  cases c:Nat.blt t aj with
  |true=>simp only[aI.put,e,aI.get,c,cg,iO,mw (fB h)]|false=>simp only[aI.put,e,aI.get,c]
 |false=>
  cases c:Nat.blt t aj with
  |true=>simp only[aI.put,e,aI.get,c]|false=>
   simp only[aI.put,e,aI.get,c,kO];cases f:Nat.beq d t with
   |true=>exact absurd (by simpa using f:d=t).symm h|false=>rfl
def aI.Qh(aj:Nat)(F:aI)(d:Nat)(v:af):(F.put aj (some d) v).get aj d=v∨(F.put aj (some d) v).get aj d=.aa:=by
 cases c:Nat.blt d aj with
 |true=>
  simp only[aI.put,c,aI.get,cg,iO];rcases cv d F.vars.length with h|h
  ·left;simp[h]
  ·right;simp[h]
 |false=>
  simp only[aI.put,c,aI.get,kO];left;have:Nat.beq d d=true:=by simp
  simp only[this]
def cL.put(h:cL aj bC β F a){d:Option Nat}(e:∀x,d=some x→x<bC)(f:aC β x v):cL aj bC β (F.put aj d x) (a.put d v):=by
 cases d with
 |none=>exact h|some d=>
  have g:=e d rfl;refine⟨fun t=>?_,by simp[Act.put,h.size],h.defers⟩;have i:(a.put (some d) v).tmps.getD t undef=if t=d then v else a.tmps.getD t undef:=by
   simp only[Act.put,gV,Oa];by_cases c:t=d
   ·subst c;simp[h.size,g]
   ·simp[fB c,c]
  rw[i];by_cases c:t=d
  ·subst c;rw[av rfl];rcases aI.Qh aj F t x with c|c
   ·rw[c];exact f
   ·rw[c];exact .aa _
  ·rw[ak c,aI.Qg aj F x c];exact h.val t
def cL.forget(h:cL aj bC β F a){c:aI}(e:∀t,c.get aj t=F.get aj t∨c.get aj t=.aa):cL aj bC β c a:=
 ⟨fun t=>by rcases e t with d|d;rw[d];exact h.val t;rw[d];exact .aa _,h.size,h.defers⟩
def Z5(d:List Nat)(t:Nat):∀l:List (Nat×af),kO t (tj d l)=kO t l∨kO t (tj d l)=.aa:=by
 intro l
 induction l with
 |nil=>exact .inl rfl|cons p l c=>
  obtain⟨k,v⟩:=p;simp only[tj];cases i:oG k d with
  |true=>
   simp only[kO];cases g:Nat.beq k t with
   |true=>exact .inl rfl|false=>exact c
  |false=>
   simp only[kO];cases g:Nat.beq k t with
   |true=>
    right;have e:k=t:=by simpa using g
    subst e;clear c
    induction l with
    |nil=>rfl|cons q l c=>
     obtain⟨f,v'⟩:=q;simp only[tj];cases h:oG f d with
     |false=>exact c|true=>
      simp only[kO];cases j:Nat.beq f k with
      |true=>
       have e:f=k:=by simpa using j
       subst e;rw[i]at h;cases h
      |false=>exact c
   |false=>exact c
def cL.eF(h:cL aj bC β F a)(c:List Nat):cL aj bC β {F with tmps:=tj c F.tmps} a:=by
 refine h.forget fun t=>?_;simp only[aI.get];cases Nat.blt t aj with
 |true=>exact .inl rfl|false=>exact Z5 c t F.tmps
end
section
variable{P:Program}{G:Nat→Option (List af)}
def fX(P:Program)(G:Nat→Option (List af))(call:gf):Prop:=∀f args S v S',call f args S=some (v,S')→Ext S S'∧(S'.ok→∀β w vs,aJ β args vs→aL G β S.H w→
 (∃fn,P.funcs[f]? =some fn∧(fn.name== "runtime.NumGoroutine")=false∧fn.body.isSome=true)∧
 jU P f ⟨vs⟩ w fun c w'=>∃u R,c=.returned u∧aC R v u∧aL G R S'.H w'∧bM β S.H w R S'.H w')
def oV(P:Program)(gv:Nat→String→Option FuncId):Prop:=∀t m f,gv t m=some f→∀v w,(method (P.types.size+Made.depth) t v m).aG P w=.ok (f,v) w
def Qi{f:FuncId}{fn:Func}(d:P.funcs[f]? =some fn)(e:(fn.name== "runtime.NumGoroutine")=false)(g:fn.body.isSome=true)(args:Array Value)(w:World):
 (callFunc f args).aG P w=.ok (.enter f args) w:=by
 obtain⟨c,h⟩:=Option.isSome_iff_exists.1 g;have i:¬fn.name= "runtime.NumGoroutine" :=by simpa using e
 simp[callFunc,d,i,h]
variable{C:eK}[lY C]
def Z6(ah:C.dB=G)(ab:fX C.P G call)(Y:oV C.P C.gv){β:aE}{w:World}{c:Call}(B:o.op=.call c)(ad:B0 c.callee=false){ev:Operand→af}{ρ:Operand→Value}
 (h:uV C c call ev S=some (x,S')) (s:∀x,aC β (ev x) (ρ x)) (Z:aL G β S.H w):(S'.ok→S.ok)∧(S'.ok→(∃f args,(execOp ρ o).aG C.P w=.ok (.enter f args) w∧
  jU C.P f args w fun p w'=>∃u R,p=.returned u∧aC R x u∧aL G R S'.H w'∧bM β S.H w R S'.H w')∨(S'=S∧∃u,aC β x u∧(execOp ρ o).aG C.P w=.ok (.value u) w)):=by
 unfold uV at h;rw[ad]at h;simp only at h;split at h
 case h_2=>cases h
 rename_i f args d;have D:=CE s c.args.toList;have p:c.args.map ρ=⟨c.args.toList.map ρ⟩:=by apply jO;simp
 split at h
 ·rename_i ak aa;simp only[aB,aN]at h;obtain⟨rfl,rfl⟩:=h;refine⟨id,fun ok=>.inr ⟨rfl,?_⟩⟩;unfold callee at d;split at d
  ·rename_i y i;split at d
   case h_2=>cases d
   rename_i j n k E;simp only[aB,aN]at d;obtain⟨rfl,rfl⟩:=d;have e:=s y;rw[E]at e;generalize l:ρ y=I at e;cases e;rename_i first captured g J K
   have z:aJ β k (first++captured):=⟨J,K⟩;have L:aJ β (k.take n) first:=by
    have:=z.take n;rw[←g,Ws]at this;rw[g]at this;exact this
   have M:aJ β (k.drop n) captured:=by
    have:=z.drop n;rw[←g,List.drop_left]at this;rw[g]at this;exact this
   obtain⟨u,A,N⟩:=lY.ok _ _ _ aa β _ w ((L.append D).append M);refine⟨u,A,?_⟩;simp[execOp,B,resolve,i,l,Deferred.ofValue,invoke,p];simpa using N
  ·rename_i r m i;split at d
   case h_2=>cases d
   rename_i t v O;split at d
   case h_2=>cases d
   rename_i j Q;simp only[aB,aN]at d;obtain⟨rfl,rfl⟩:=d;have e:=s r;rw[O]at e;generalize l:ρ r=I at e;cases e;rename_i u A;obtain⟨x,ae,N⟩:=lY.ok _ _ _ aa β _ w (aJ.cons A D);refine⟨x,ae,?_⟩;have ag:List.take c.args.size (List.map ρ c.args.toList)=List.map ρ c.args.toList:=qw (by simp);simp[execOp,B,resolve,i,l,invoke,p,callMethod,Y t m j Q,ag];simpa using N
  ·cases d
 obtain⟨h1,h2⟩:=ab _ _ _ _ _ h;refine⟨h1.ok,fun ok=>.inl ?_⟩;unfold callee at d;split at d
 ·rename_i y i;split at d
  case h_2=>cases d
  rename_i j n k E;simp only[aB,aN]at d;obtain⟨rfl,rfl⟩:=d;have e:=s y;rw[E]at e;generalize l:ρ y=I at e;cases e;rename_i first captured g J K
  have z:aJ β k (first++captured):=⟨J,K⟩;have L:aJ β (k.take n) first:=by
   have:=z.take n;rw[←g,Ws]at this;rw[g]at this;exact this
  have M:aJ β (k.drop n) captured:=by
   have:=z.drop n;rw[←g,List.drop_left]at this;rw[g]at this;exact this
  obtain⟨⟨fn,T,U,V⟩,W⟩:=h2 ok β w _ ((L.append D).append M) Z;refine⟨j,⟨first++c.args.toList.map ρ++captured⟩,?_,W⟩;have X:((⟨first++c.args.toList.map ρ++captured⟩:Array Value))=(⟨first⟩++⟨c.args.toList.map ρ⟩)++⟨captured⟩:=by apply jO;simp
  rw[X];simp[execOp,B,resolve,i,l,Deferred.ofValue,invoke,p,Qi T U V]
 ·rename_i r m i;split at d
  case h_2=>cases d
  rename_i t v O;split at d
  case h_2=>cases d
  rename_i j Q;simp only[aB,aN]at d;obtain⟨rfl,rfl⟩:=d;have e:=s r;rw[O]at e;generalize l:ρ r=I at e;cases e;rename_i u A;obtain⟨⟨fn,T,U,V⟩,W⟩:=h2 ok β w _ (aJ.cons A D) Z;refine⟨j,⟨u::c.args.toList.map ρ⟩,?_,W⟩;have X:(⟨u::c.args.toList.map ρ⟩:Array Value)=#[u]++⟨c.args.toList.map ρ⟩:=by apply jO;simp
  have al:∀q:Array Value,(#[Value.iface t u]++q).extract 1 (#[Value.iface t u]++q).size=q:=by
   intro q;apply jO;simp
  rw[X];simp[execOp,B,resolve,i,l,invoke,p,callMethod,Y t m j Q,Qi T U V];exact qw (by simp)
 ·cases d
def JA(y:C.dB=G){call:gf}(E:fX C.P G call)(I:oV C.P C.gv){β:aE}{w:World}{a:Act}{o:Oper}{ev:Operand→af}{x:af}{S S':ai}(h:ee C call ev o.op S=some (x,S'))
 (s:∀x,aC β (ev x) (a.eval x)) (k:aL G β S.H w) {next:Act→World→Prop}:
 (S'.ok→S.ok)∧(S'.ok→(∀v w' R,aC R x v→aL G R S'.H w'→bM β S.H w R S'.H w'→next (a.put o.dst v) w')→o.ef C.P a w next):=by
 suffices z:∀d,aL G β S.H d→(S'.ok→S.ok)∧(S'.ok→(∀v w' R,aC R x v→aL G R S'.H w'→bM β S.H d R S'.H w'→next (a.put o.dst v) w')→∃r w',(execOp a.eval o).aG C.P d=.ok r w'∧
  match r with
  |.value v=>lp d w'→eV d w'∧next (a.put o.dst v) w'|.skip=>lp d w'→eV d w'∧next (a.put o.dst undef) w'
  |.enter f args=>w'=d∧jU C.P f args d fun
   |.returned v,J=>next (a.put o.dst v) J|_,_=>False
  |_=>False) by
  refine⟨(z w k).1,fun ok e d A=>(z d (k.rely A)).2 ok fun v w' R K L M=>e v w' R K L ((A.nC β S.H).trans M)⟩
 clear k w;intro w k;unfold ee at h;split at h
 ·rename_i f N;obtain⟨h1,h2⟩:=Zk y (ρ:=a.eval) (o:=o) N h s k;refine⟨h1,fun ok e=>?_⟩;obtain⟨r,v,w',l,m,p,q⟩:=h2 ok;refine⟨r,w',l,?_⟩;rcases m with rfl|⟨rfl,rfl⟩
  ·exact fun n=>let⟨R,g,i,j⟩:=q n;⟨p,e v w' R g i j⟩
  ·exact fun n=>let⟨R,g,i,j⟩:=q n;⟨p,e _ w' R g i j⟩
 ·rename_i c t;have B:o.op=.call c:=by
   cases aP:o.op<;>rw[aP]at t<;>simp only[nq,reduceCtorEq,Iy.call.injEq]at t;rw[t]
  cases D:B0 c.callee with
  |true=>
   unfold uV at h;rw[D]at h;obtain⟨h1,h2⟩:=Zl (ρ:=a.eval) B h s k;refine⟨h1,fun ok e=>?_⟩;obtain⟨r,v,w',l,m,p,q⟩:=h2 ok;refine⟨r,w',l,?_⟩;rcases m with rfl|⟨rfl,rfl⟩
   ·exact fun n=>let⟨R,g,i,j⟩:=q n;⟨p,e v w' R g i j⟩
   ·exact fun n=>let⟨R,g,i,j⟩:=q n;⟨p,e _ w' R g i j⟩
  |false=>
   obtain⟨h1,h2⟩:=Z6 y E I B D (ρ:=a.eval) h s k;refine⟨h1,fun ok e=>?_⟩;rcases h2 ok with⟨f,args,l,m⟩|⟨rfl,u,O,l⟩
   ·refine⟨_,_,l,rfl,m.mono ?_⟩;rintro Q w' ⟨u,R,rfl,g,i,j⟩;exact e u w' R g i j
   ·exact⟨_,_,l,fun _=>⟨eV.refl _,e u _ β O k (bM.refl _ _ _)⟩⟩
def aC.Qj{β:aE}(h:aC β (.obj .bx []) v):v=.tuple #[]:=by
 cases h with
 |bx d vs c _=>
  cases vs with
  |nil=>rfl|cons _ _=>simp at c
def aC.Qk(β:aE):aC β (.obj .bx []) Go.undef:=.bx [] [] rfl (fun i x v h _=>by simp at h)
def Ql{aj bC:Nat}{β:aE}{F:aI}{a:Act}(s:cL aj bC β F a)(h:mH ops.toList (F.ev aj) o.guard S=some (b,S')):
 Pure S S'∧(S'.ok→Region.wanted o (yielded ops a.tmps)=b):=by
 unfold mH at h;split at h
 ·rename_i g;simp only[aB,aN]at h;obtain⟨rfl,rfl⟩:=h;exact⟨Pure.refl _,fun _=>by simp[Region.wanted,g]⟩
 ·rename_i j A g;rw[cg]at h;cases i:ops.toList[j]? with
  |none=>simp[i]at h|some u=>
   simp only[i]at h;split at h
   ·cases h
   rename_i d l;split at h
   case h_3=>cases h
   case h_2=>
    rename_i m;simp only[aB,aN]at h;obtain⟨rfl,rfl⟩:=h;refine⟨Pure.refl _,fun _=>?_⟩;have f:=s.val d;have n:F.get aj d=.obj .bx []:=m;rw[n]at f;have e:=f.Qj;have k:ops[j]? =some u:=by simpa using i
    have p:yielded ops a.tmps j=none:=by
     rcases cv d a.tmps.size with c|c
     ·have q:a.tmps[d]? =some (.tuple #[]):=by
       simp only[gV,dN c,ic]at e;rw[dN c,e]
      simp[yielded,k,l,q]
     ·simp[yielded,k,l,Er c]
    simp[Region.wanted,g,p]
   rename_i r m;split at h
   case h_2=>cases h
   rename_i t D w;simp only[aB,aN]at h;obtain⟨rfl,rfl⟩:=h;obtain⟨y,z⟩:=B.oM w;refine⟨y,fun ok=>?_⟩;have f:=s.val d;have n:F.get aj d=.atom (.bool r):=m;rw[n]at f;have e:=f.tC;have c:d<a.tmps.size:=by
    rcases cv d a.tmps.size with h|h
    ·exact h
    ·simp[gV,Er h,undef]at e
   have q:a.tmps[d]? =some (.bool r.v):=by
    simp only[gV,dN c,ic]at e;rw[dN c,e]
   have k:ops[j]? =some u:=by simpa using i
   have p:yielded ops a.tmps j=some r.v:=by
    simp[yielded,k,l,q]
   simp[Region.wanted,g,p,z ok]
def JB(bC:Nat)(ops:List Oper):Prop:=∀o∈ops,∀d,o.dst=some d→d<bC
def CJ{ops:List Oper}{ev:Operand→af}{g:Option (Nat×Bool)}(h:mH ops ev g S=some (b,S')):Pure S S':=by
 unfold mH at h
 repeat'(split at h)
 all_goals(try(cases h;done))
 ·simp only[aB,aN]at h;obtain⟨_,rfl⟩:=h;exact Pure.refl _
 ·simp only[aB,aN]at h;obtain⟨_,rfl⟩:=h;exact(B.oM ‹B.test _ _=some _›).1
 ·simp only[aB,aN]at h;obtain⟨_,rfl⟩:=h;exact Pure.refl _
def JC(f:xQ call){aj:Nat}{ops:List Oper}:∀(r:List Oper) (F c:aI) (S S':ai),tn C call aj ops r F S=some (c,S')→Ext S S':=by
 intro r
 induction r with
 |nil=>
  intro F c S S' h;simp only[tn,aB,aN]at h;obtain⟨_,rfl⟩:=h;exact Ext.refl _
 |cons o r e=>
  intro F c S S' h;simp only[tn]at h;split at h
  ·cases h
  ·rename_i g d;exact(CJ d).ext.trans (e _ _ _ _ h)
  ·rename_i g d;split at h
   ·cases h
   rename_i x i aP;exact((CJ d).ext.trans (CH f aP)).trans (e _ _ _ _ h)
def fX.ext(h:fX C.P G call):xQ call:=fun f args S v S' c=>(h f args S v S' c).1
def Z7(B:C.dB=G)(m:fX C.P G call)(D:oV C.P C.gv){aj bC:Nat}(E:JB bC ops.toList){Q:Exit→Act→World→Prop}:
 ∀(r:List Oper) (i:Nat) (F g:aI) (S S':ai) (β:aE) (a:Act) (w:World),ops.toList.drop i=r→tn C call aj ops.toList r F S=some (g,S')→S'.ok→cL aj bC β F a→aL G β S.H w→
  (∀d w' R,cL aj bC R g d→aL G R S'.H w'→bM β S.H w R S'.H w'→Q .normal d w')→lq C.P ops Q (List.range' i r.length) a w:=by
 intro r
 induction r with
 |nil=>
  intro i F g S S' β a w j h ok c k l;simp only[tn,aB,aN]at h;obtain⟨rfl,rfl⟩:=h;exact l a w β c k (bM.refl ..)
 |cons o r t=>
  intro i F g S S' β a w j h ok c k l;have I:ops[i]? =some o:=by
   have:(ops.toList.drop i)[0]? =some o:=by rw[j];rfl
   simpa using this
  have u:ops.toList.drop (i+1)=r:=by
   have:=iZ (List.drop 1) j;rw[H9]at this;simpa[Bo]using this
  have y:∀x,o.dst=some x→x<bC:=fun x J=>E o (List.mem_of_mem_drop (by rw[j];exact lO ..)) x J;simp only[tn]at h;rw[iY,List.range'_succ,lq,I];simp only;split at h
  ·cases h
  ·rename_i z n;obtain⟨f,p⟩:=Ql c n;have K:=(JC m.ext r _ _ _ _ h).ok ok;rw[p K];simp only[m8,ei];refine t (i+1) _ _ _ _ β _ w u h ok (c.put y (.Qk _)) (by rw[f.H];exact k) ?_;intro d w' R q s e;rw[f.H]at e;exact l d w' R q s e
  ·rename_i z n;obtain⟨f,p⟩:=Ql c n;split at h
   ·cases h
   rename_i x X aP;have A:=(JC m.ext r _ _ _ _ h).ok ok;have L:aL G β z.H w:=by rw[f.H];exact k
   obtain⟨M,N⟩:=JA B m D (o:=o) (a:=a) (next:=lq C.P ops Q (List.range' (i+1) r.length)) aP (fun x=>c.ev x) L;rw[p (M A)];simp only[gT];refine N A fun v w' R q s e=>?_;refine t (i+1) _ _ _ _ R _ w' u h ok ((c.mono e.le).put y q) s ?_;intro d O T U V W;rw[f.H]at e;exact l d O T U V (e.trans W)
end
end
section
variable [aR][aF]
open Region
variable{Q:Array Oper}{P:Program}{R:Nat}
def Closed(Q:Array Oper)(D:Nat→Prop):Prop:=∀i a,Q[i]? =some a→D i→∀b∈a.after,binds .any b=true→D b.on
def eZ(Q:Array Oper)(i k:Nat):Prop:=((before Q).getD i 0).testBit k=true
def Qm{d:Type}(f:d→Option Nat)(k:Nat):∀(l:List d) (a:Nat),(l.foldl (fun a b=>match f b with|some m=>a|||m|none=>a) a).testBit k=true→a.testBit k=true∨∃b∈l,∃m,f b=some m∧m.testBit k=true
 |[],a,h=>.inl h|b::l,a,h=>by
  simp only[N8]at h;rcases Qm f k l _ h with h|⟨e,g,h⟩
  ·cases c:f b with
   |none=>simp only[c]at h;exact .inl h|some m=>
    simp only[c,Nat.testBit_or,pM]at h;rcases h with h|h
    ·exact .inl h
    ·exact .inr ⟨b,lO ..,m,c,h⟩
  ·exact .inr ⟨e,m9 _ g,h⟩
def FO{D:Nat→Prop}(y:Closed Q D):∀(i k:Nat) (c:Oper),Q[i]? =some c→eZ Q i k→(∀a∈c.after,binds .any a=true→D a.on)→D k:=by
 have z:∀(r:List Oper) (b:Array Nat),Q.toList.drop b.size=r→b.size≤Q.size→
  (∀i,i<b.size→∀k c,Q[i]? =some c→(b.getD i 0).testBit k=true→(∀a∈c.after,binds .any a=true→D a.on)→D k)→
  ∀i k c,Q[i]? =some c→((r.foldl (fun b c=>b.push (c.after.foldl (fun e a=>if binds .any a then e|||2^a.on|||b.getD a.on 0 else e) 0)) b).getD i 0).testBit k=true→
   (∀a∈c.after,binds .any a=true→D a.on)→D k:=by
  intro r
  induction r with
  |nil=>
   intro b l A b7 i k c n d g;simp only[List.foldl_nil]at d;rcases cv i b.size with h|h
   ·exact b7 i h k c n d g
   ·simp[gV,Er h]at d
  |cons c r B=>
   intro b l A b7 i k C n d g;have N:b.size<Q.size:=by
    rcases cv b.size Q.size with h|h
    ·exact h
    ·rw[aoj (by simpa using h)]at l;cases l
   have E:Q[b.size]? =some c:=by
    have:(Q.toList.drop b.size)[0]? =some c:=by rw[l];rfl
    simpa using this
   simp only[N8]at d;refine B _ (by rw[WA,←H9,l];rfl) (by rw[WA];omega) ?_ i k C n d g;intro o F t H p q u;rw[WA]at F;rcases cv o b.size with h|h
   ·have a:∀v,(b.push v).getD o 0=b.getD o 0:=by
     intro v;simp[gV,Bh,Nat.ne_of_lt h]
    rw[a]at q;exact b7 o h t H p q u
   ·have I:o=b.size:=by omega
    subst I;rw[E]at p;injection p with p;subst p;have a:∀v,(b.push v).getD b.size 0=v:=by
     intro v;simp[gV]
    rw[a,←Wt]at q;have J:(fun(e:Nat) (a:Edge)=>if binds .any a then e|||2^a.on|||b.getD a.on 0 else e)=(fun e a=>match(if binds .any a then some (2^a.on|||b.getD a.on 0)else none:Option Nat)with|some m=>e|||m|none=>e):=by
     funext e a;by_cases h:binds .any a=true
     ·simp[h,Nat.or_assoc]
     ·simp[h]
    rw[J]at q;rcases Qm _ t _ _ q with K|⟨j,L,m,s,f⟩
    ·simp at K
    ·split at s
     case isFalse=>cases s
     rename_i M;injection s with s;subst s;have w:=u j (Ia.2 L) M;rw[Nat.testBit_or,pM]at f;rcases f with f|f
     ·rw[Nat.testBit_two_pow]at f;have:j.on=t:=by simpa using f
      rw[←this];exact w
     ·rcases cv j.on b.size with h2|h2
      ·have x:j.on<Q.size:=by omega
       exact b7 j.on h2 t Q[j.on] (dN x) f (fun a g d=>y j.on _ (dN x) w a g d)
      ·simp[gV,Er h2]at f
 intro i k c n d g;refine z Q.toList #[] (by simp) (by simp) (fun i h=>by simp at h) i k c n ?_ g;unfold eZ before at d;rw[←Wt]at d;exact d
def FP(Q:Array Oper)(i k:Nat):(B4 Q i).testBit k=true↔eZ Q i k:=by
 unfold B4 eZ;rw[CheckFast.beforeF_eq]
def CK(P:Program)(a:Op):Bool:=
 match a with
 |.load .. =>true|.slice t _ _ _ _=>B1 P t|.convert b d _=>Nat.beq b d|_=>false
def FQ(d:Option Nat)(l:List Nat):Bool:=
 match d with
 |some d=>oG d l|none=>false
def Qn(d a:Option Nat):Bool:=
 match d with
 |some d=>
  match a with
  |some a=>Nat.beq d a|none=>false
 |none=>false
def pZ(P:Program)(dyn:Bool)(a:Oper)(c:List Nat)(b:Oper)(d:List Nat):Bool:=
 !(FQ a.dst d)&& !(FQ b.dst c)&& !(Qn a.dst b.dst)&&
 !(kP a.op&&kP b.op)&& !(gh a.op&&(kP b.op||CK P b.op))&&
 (dyn||(!(CK P a.op&&kP b.op)&& !(kP a.op&&CK P b.op)))
def CL(P:Program)(dyn:Bool)(b:Oper)(c:List Nat)(d:Nat):List (Oper×List Nat)→Nat→Bool
 |[],_=>true|(a,e)::r,k=>
  match d.testBit k with
  |true=>CL P dyn b c d r (k+1)|false=>
   match pZ P dyn a e b c with
   |true=>CL P dyn b c d r (k+1)|false=>false
def CM(P:Program)(dyn:Bool):List (Oper×List Nat)→List Nat→List (Oper×List Nat)→Bool
 |[],_,_=>true|_::_,[],_=>false|(b,a)::r,d::e,c=>
  match CL P dyn b a d c 0 with
  |true=>CM P dyn r e (c++[(b,a)])|false=>false
def FR:List Oper→Nat→Bool
 |[],_=>true|b::r,i=>
  match b.after.toList.all fun a=> !binds .any a||Nat.blt a.on i with
  |true=>FR r (i+1)|false=>false
def CN(R:Nat):List Oper→Bool
 |[]=>true|a::r=>
  match a.dst with
  |some d=>
   match Nat.blt d R with
   |true=>CN R r|false=>false
  |none=>CN R r
def xR(Q:Array Oper):List Oper→List (Oper×List Nat)|[]=>[]|a::r=>(a,Oper.looksAt Q a)::xR Q r
def tI(P:Program)(R:Nat)(dyn:Bool)(Q:Array Oper)(a:Bool):Bool:=
 match CN R Q.toList with
 |false=>false|true=>
  match a with
  |false=>true|true=>
   match FR Q.toList 0 with
   |false=>false|true=>CM P dyn (xR Q Q.toList) (CheckFast.beforeF Q).toList []
def JD{R:Nat}:∀{l:List Oper},CN R l=true→JB R l
 |[],_=>fun e i=>by cases i
 |e::r,h=>by
  simp only[CN]at h;intro f b d c;rcases jN.1 b with rfl|b
  ·rw[c]at h;simp only at h;cases a:Nat.blt d R with
   |false=>simp[a]at h|true=>simpa using a
  ·cases g:e.dst with
   |none=>rw[g]at h;exact JD h f b d c|some j=>
    rw[g]at h;simp only at h;cases a:Nat.blt j R with
    |false=>simp[a]at h|true=>simp only[a]at h;exact JD h f b d c
def Qo:∀{l:List Oper} {i:Nat},FR l i=true→∀(j:Nat) b,l[j]? =some b→∀a∈b.after,binds .any a=true→a.on<i+j
 |[],_,_=>fun j b f=>by simp at f|b::r,i,h=>by
  simp only[FR]at h;split at h
  ·rename_i g;intro j k c a d e;cases j with
   |zero=>
    simp at c;subst c;have:=xb.1 g a (Wy.2 d);simp[e]at this;omega
   |succ j=>
    have:=Qo h j k (by simpa using c) a d e;omega
  ·cases h
def JE{P:Program}{dyn:Bool}{b:Oper}{d:List Nat}{e:Nat}:∀{l:List (Oper×List Nat)} {i:Nat},CL P dyn b d e l i=true→
 ∀(k:Nat) p,l[k]? =some p→e.testBit (i+k)=true∨pZ P dyn p.1 p.2 b d=true
 |[],_,_=>fun k p c=>by simp at c|(a,g)::r,i,h=>by
  intro k p c;simp only[CL]at h;cases k with
  |zero=>
   simp at c;subst c;split at h
   ·exact .inl (by assumption)
   ·split at h
    ·exact .inr (by assumption)
    ·cases h
  |succ k=>
   have f:i+(k+1)=(i+1)+k:=by omega
   rw[f];split at h
   ·exact JE h k p (by simpa using c)
   ·split at h
    ·exact JE h k p (by simpa using c)
    ·cases h
def Qp{P:Program}{dyn:Bool}:∀{l:List (Oper×List Nat)} {d:List Nat} {e:List (Oper×List Nat)},CM P dyn l d e=true→
 ∀(j:Nat) p,l[j]? =some p→∃c,d[j]? =some c∧∀(k:Nat) q,(e++l.take j)[k]? =some q→c.testBit k=true∨pZ P dyn q.1 q.2 p.1 p.2=true
 |[],_,_,_=>fun j p a=>by simp at a|_::_,[],_,h=>by simp[CM]at h|(b,m)::r,c::d,e,h=>by
  intro j p a;simp only[CM]at h;split at h
  case h_2=>cases h
  rename_i g;cases j with
  |zero=>
   simp at a;subst a;refine⟨c,rfl,fun k q f=>?_⟩;have:=JE g k q (by simpa using f);simpa using this
  |succ j=>
   obtain⟨i,h1,h2⟩:=Qp h j p (by simpa using a);refine⟨i,by simpa using h1,fun k q f=>h2 k q ?_⟩;simpa using f
def JF(Q:Array Oper):∀(l:List Oper) (i:Nat),(xR Q l)[i]? =(l[i]?).map fun a=>(a,Oper.looksAt Q a)|[],i=>by simp[xR]|a::r,0=>by simp[xR]|a::r,i+1=>by simp[xR,JF Q r i]
def vB{dyn:Bool}(h:tI P R dyn Q true=true){k j:Nat}{a b:Oper}(c:k<j)(d:Q[k]? =some a)(e:Q[j]? =some b):
 eZ Q j k∨pZ P dyn a (Oper.looksAt Q a) b (Oper.looksAt Q b)=true:=by
 unfold tI at h;split at h
 ·cases h
 simp only at h;split at h
 ·cases h
 have f:(xR Q Q.toList)[j]? =some (b,Oper.looksAt Q b):=by rw[JF];simp[e]
 obtain⟨g,h1,h2⟩:=Qp h j _ f;have:=h2 k (a,Oper.looksAt Q a) (by
  rw[jP,lP,av c,JF];simp[d])
 refine this.imp (fun i=>?_) id;have l:(before Q).getD j 0=g:=by
  rw[←CheckFast.beforeF_eq];simp only[H8]at h1;simp[gV,h1]
 unfold eZ;rw[l];exact i
def Qq{dyn:Bool}{a:Bool}(h:tI P R dyn Q a=true):JB R Q.toList:=by
 unfold tI at h;split at h
 ·cases h
 ·exact JD (by assumption)
def Z8{dyn:Bool}(h:tI P R dyn Q true=true):∀(j:Nat) a,Q[j]? =some a→∀b∈a.after,binds .any b=true→b.on<j:=by
 unfold tI at h;split at h
 ·cases h
 simp only at h;split at h
 ·cases h
 rename_i c;intro j a d b e f;have:=Qo c j a (by simpa using d) b e f;omega
end
section
variable [aR][aF]
open Region
section
open Classical
def last(D cW:Nat→Prop):Nat→Nat|0=>0|n+1=>if D n∧cW n then n+1 else last D cW n
variable{V:Type}{x:Nat→V}{D cW:Nat→Prop}
def FT{i n:Nat}(d:∀k,k<n→¬cW k→x (k+1)=x k)(e:i≤n)(h:∀k,k<n→cW k→(D k↔k<i)):x (last D cW n)=x i:=by
 have f:∀m,m≤n→x (last D cW m)=x (min m i):=by
  intro m
  induction m with
  |zero=>intro _;simp[last]|succ m g=>
   intro j;simp only[last];split
   ·rename_i a;have:=(h m (by omega) a.2).1 a.1;rw[Bi (by omega)]
   ·rename_i a;rw[g (by omega)];rcases cv m i with b|b
    ·rw[Bi (by omega),Bi (by omega)];refine(d m (by omega) fun c=>a ⟨(h m (by omega) c).2 b,c⟩).symm
    ·rw[HV (by omega),HV (by omega)]
 rw[f n (aX _),HV e]
def Qr{i n:Nat}(hi:i<n)(b:cW i)(h:∀k,i<k→k<n→cW k→¬D k):last (fun k=>D k∨k=i) cW n=i+1:=by
 have c:∀m,i<m→m≤n→last (fun k=>D k∨k=i) cW m=i+1:=by
  intro m
  induction m with
  |zero=>intro h;omega|succ m d=>
   intro h1 h2;simp only[last];rcases cv i m with a|a
   ·rw[ak,d a (by omega)];rintro⟨h3,h4⟩;rcases h3 with h3|h3
    ·exact h m a (by omega) h4 h3
    ·omega
   ·have:m=i:=by omega
    subst this;rw[av ⟨.inr rfl,b⟩]
 exact c n hi (aX _)
def Qs{i n:Nat}(a:¬cW i):last (fun k=>D k∨k=i) cW n=last D cW n:=by
 induction n with
 |zero=>rfl|succ n b=>
  simp only[last,b];by_cases h:D n∧cW n
  ·rw[av h,av ⟨.inl h.1,h.2⟩]
  ·rw[ak h,ak];rintro⟨h1|h1,h2⟩
   ·exact h ⟨h1,h2⟩
   ·subst h1;exact a h2
end
section
variable{G:Nat→Option (List af)}{β T:aE}{w w':World}{Q R U H2:List ah}
def aL.view(a:aL G β Q w)(l:R.length=Q.length)(g:∀(b:Nat) k,R[b]? =some k→k.mode.alive→Q[b]? =some k):aL G β R w:=
 ⟨fun b k c d=>a.blk b k (g b k c d) d,fun b i k j e m n c o f d=>a.dO b i k j e m n (g b k c (eu f)) (g i j o d) f d,
  fun b e h=>by rw[l];exact a.fW b e h,a.dB,fun b k e c f=>a.apart b k e (g b k c (eu f)) f⟩
def aL.Z9(z:aL G β Q w)(N:R.length=Q.length)(J:∀(b:Nat) k,R[b]? =some k→k.mode.alive→Q[b]? =some k)
 (E:aL G T U w') (i:bM β R w T U w') (F:Nat→Prop) (S:H2.length=U.length)
 (cC:∀b,F b→H2[b]? =Q[b]? ∧(∀e,R[b]? =some e→e.mode=.bn)∧∀k,Q[b]? =some k→k.mode.alive→k.mode=.own∧∃d,β b=some d) (aa:∀b,¬F b→H2[b]? =U[b]?)
 (ab:∀(b:Nat) k,U[b]? =some k→k.mode=.ro→R[b]? =some k):aL G T H2 w'∧bM β Q w T H2 w':=by
 have ao:∀b k,Q[b]? =some k→b<R.length:=by
  intro b k a;rw[N];rcases cv b Q.length with h|h
  ·exact h
  ·rw[di h]at a;cases a
 have ad:∀b k,R[b]? =some k→b<R.length:=by
  intro b k a;rcases cv b R.length with h|h
  ·exact h
  ·rw[di h]at a;cases a
 have W:∀b k d,Q[b]? =some k→k.mode=.own→β b=some d→(∀e,R[b]? =some e→e.mode=.bn)→¬Own β R d.c:=by
  rintro b k d a g f y ⟨cm,A,p,K,q,r,H⟩;have t:b≠cm:=by
   intro B;subst B;have:=y A K;rw[q]at this;cases this
  exact z.dO b cm k A d p t a (J cm A K (eu q)) g (eu q) f r H.symm
 have X:∀b k d,Q[b]? =some k→k.mode=.own→β b=some d→d.c<w.heap.size:=fun b k d a g f=>z.lt a (eu g) f;have u:∀b k,H2[b]? =some k→k.mode.alive→(F b∧Q[b]? =some k∧k.mode=.own∧(∃d,β b=some d)∧∀e,R[b]? =some e→e.mode=.bn)∨(¬F b∧U[b]? =some k):=by
  intro b k a l;by_cases h:F b
  ·obtain⟨ae,ag,ai⟩:=cC b h;rw[ae]at a;obtain⟨aj,ak⟩:=ai k a l;exact .inl ⟨h,a,aj,ak,ag⟩
  ·rw[aa b h]at a;exact .inr ⟨h,a⟩
 refine⟨⟨?_,?_,?_,E.dB,?_⟩,⟨i.le,by rw[S,←N];exact i.len,i.os,i.tape,i.output,i.size,?_,?_,fun b u=>i.old b (by rw[N];exact u)⟩⟩
 ·intro b k a l;rcases u b k a l with⟨_,a,g,⟨d,f⟩,y⟩|⟨_,a⟩
  ·rcases z.blk b k a l with⟨o,m,al⟩|⟨_,L⟩
   ·rw[f]at m;injection m with B;subst B;exact .inl ⟨d,i.le b d f,al.mono i.le i.size (i.kept _ (X b k d a g f) (W b k d a g f y))⟩
   ·rw[f]at L;cases L
  ·exact E.blk b k a l
 ·
   have Y:∀b j k e d o,b≠j→Q[b]? =some k→k.mode=.own→β b=some d→(∀e,R[b]? =some e→e.mode=.bn)→U[j]? =some e→e.mode.alive→T j=some o→d.c≠o.c:=by
    intro b j k e d o t a g f y n l m B;cases O:e.mode with
    |own=>
     exact W b k d a g f y (i.own _ (X b k d a g f) ⟨j,e,o,n,O,m,B.symm⟩)
    |ro=>
     have h1:=ab j e n O;have h2:=J j e h1 l;rw[i.old j (ad j e h1)]at m;exact z.dO b j k e d o t a h2 g l f m B
    |bn=>exact l O
   intro b j k e d o t a n g l f m;rcases u b k a (eu g)with⟨_,a,am,⟨v,s⟩,y⟩|⟨_,a⟩
   ·have I:v=d:=by rw[i.le b v s]at f;injection f
    subst I;rcases u j e n l with⟨_,n,q,⟨p,r⟩,Z⟩|⟨_,n⟩
    ·have P:p=o:=by rw[i.le j p r]at m;injection m
     subst P;exact z.dO b j k e _ _ t a n g l s r
    ·exact Y b j k e _ _ t a am s y n l m
   ·rcases u j e n l with⟨_,n,q,⟨p,r⟩,Z⟩|⟨_,n⟩
    ·have P:p=o:=by rw[i.le j p r]at m;injection m
     subst P;exact(Y j b e k _ _ (fB t) n q r Z a (eu g) f).symm
    ·exact E.dO b j k e d o t a n g l f m
 ·intro b d h;rw[S];exact E.fW b d h
 ·intro b k d a g f;rcases u b k a (eu g)with⟨_,a,_,⟨v,s⟩,_⟩|⟨_,a⟩
  ·have I:v=d:=by rw[i.le b v s]at f;injection f
   subst I;exact z.apart b k _ a g s
  ·exact E.apart b k d a g f
 ·intro c H L;refine i.kept c H fun⟨b,k,d,a,g,f,M⟩=>L ⟨b,k,d,J b k a (eu g),g,f,M⟩
 ·intro c H ⟨b,k,d,a,g,f,M⟩;rcases u b k a (eu g)with⟨_,a,_,⟨v,s⟩,_⟩|⟨_,a⟩
  ·have I:v=d:=by rw[i.le b v s]at f;injection f
   subst I;exact⟨b,k,_,a,g,s,M⟩
  ·obtain⟨cm,A,p,K,q,r,an⟩:=i.own c H ⟨b,k,d,a,g,f,M⟩;exact⟨cm,A,p,J cm A K (eu q),q,r,an⟩
def aL.newAt(m:aL G β Q w){b:Nat}{O:ah}(P:Q[b]? =some O)(S:β b=none)(d:Data)(vs:List Value)(t:TypeId)(W:d.len≤vs.length)(X:aJ β d.list (vs.take d.len))(Y:fH d w.heap.size):
 aL G (β.put b ⟨w.heap.size,0,vs.length⟩) (Q.set b ⟨d,.own⟩) (w.alloc (.cells ⟨vs⟩ t))∧
 (∀c,c<w.heap.size→(w.alloc (.cells ⟨vs⟩ t)).heap[c]? =w.heap[c]?)∧(∀c,c<w.heap.size→Own (β.put b ⟨w.heap.size,0,vs.length⟩) (Q.set b ⟨d,.own⟩) c→Own β Q c):=by
 have Z:b<Q.length:=by
  rcases cv b Q.length with h|h
  ·exact h
  ·simp[di h]at P
 have r:=aE.Fv (L:=⟨w.heap.size,0,vs.length⟩) S;have hold:∀c,c<w.heap.size→(w.alloc (.cells ⟨vs⟩ t)).heap[c]? =w.heap[c]? :=fun c E=>RowKit.Below.heap_alloc w _ c E;have aa:(w.alloc (.cells ⟨vs⟩ t)).heap[w.heap.size]? =some (.cells ⟨vs⟩ t (0,0)):=by
  show(w.heap.push _)[w.heap.size]? =_;simp
 have al:(w.alloc (.cells ⟨vs⟩ t)).heap.size=w.heap.size+1:=by
  show(w.heap.push _).size=_;simp
 have n:∀(x:Nat) k,(Q.set b ⟨d,.own⟩)[x]? =some k→(x≠b∧Q[x]? =some k)∨(x=b∧k=⟨d,.own⟩):=by
  intro x k e;by_cases j:x=b
  ·subst j;rw[pL Z]at e;injection e with e;exact .inr ⟨rfl,e.symm⟩
  ·rw[mw (fB j)]at e;exact .inl ⟨j,e⟩
 refine⟨⟨?_,?_,?_,?_,?_⟩,hold,?_⟩
 ·intro x k e q;rcases n x k e with⟨h,e⟩|⟨rfl,rfl⟩
  ·rcases m.blk x k e q with⟨L,f,F⟩|⟨h2,h3⟩
   ·exact .inl ⟨L,r x L f,F.mono r (by omega) (bL.of (hold _ (F.lt q)))⟩
   ·exact .inr ⟨h2,by rw[aE.gX h];exact h3⟩
  ·exact .inl ⟨_,aE.fJ ..,rfl,Y,vs,t,(0,0),aa,.inl rfl,rfl,W,X.mono r⟩
 ·intro x s k u L ab H e I o q f p;rcases n x k e with⟨h,J⟩|⟨K,am⟩
  ·rw[aE.gX h]at f;rcases n s u I with⟨y,z⟩|⟨A,ad⟩
   ·rw[aE.gX y]at p;exact m.dO x s k u L ab H J z o q f p
   ·rw[A,aE.fJ]at p;injection p with j;subst j;have:=m.lt J (eu o) f;simp only;omega
  ·rw[K,aE.fJ]at f;injection f with j;subst j;rcases n s u I with⟨y,z⟩|⟨A,ad⟩
   ·rw[aE.gX y]at p;have:=m.lt z q p;simp only;omega
   ·exact absurd (K.trans A.symm) H
 ·intro x L f;rw[lN];by_cases j:x=b
  ·omega
  ·rw[aE.gX j]at f;exact m.fW x L f
 ·intro g l B;obtain⟨h1,h2⟩:=m.dB g l B;refine⟨by omega,fun i x ae=>?_⟩;obtain⟨v,M,ag,ai⟩:=h2 i x ae;obtain⟨aj,ak⟩:=r8 g;exact⟨v,by rw[ak]at M⊢;rw[World.cell?_of_block (w:=w) (a:=at' (g7 g) (aj+i)) (hold _ h1)];exact M,ag,ai⟩
 ·intro x k L e o f;rcases n x k e with⟨h,e⟩|⟨rfl,rfl⟩
  ·rw[aE.gX h]at f;exact m.apart x k L e o f
  ·rw[aE.fJ]at f;injection f with j;subst j;intro g l B;have:=(m.dB _ l B).1;simp only;omega
 ·intro c E ⟨x,k,L,e,o,f,N⟩;rcases n x k e with⟨h,e⟩|⟨rfl,rfl⟩
  ·rw[aE.gX h]at f;exact⟨x,k,L,e,o,f,N⟩
  ·rw[aE.fJ]at f;injection f with j;subst j;simp only at N;omega
end
section
variable{C:eK}{β:aE}{w:World}
def aaa{b:Oper}{ev:Operand→af}{u:Operand→Value}{bF:Nat}{x:af}{S g:ai}(h:tq C ev b.op bF S=some (x,g))(A:∀x,aC β (ev x) (u x)):
 ∃d f,Pure S f∧g.H=fe ⟨d,.own⟩ bF S.H∧g.cond=f.cond∧g.low=S.low∧g.dec=f.dec∧
  (f.ok→∃(vs:List Value) (t:TypeId) (v:World→Value),d.full∧aJ β d.list vs∧(∀w:World,(execOp u b).aG C.P w=.ok (.value (v w)) (w.alloc (.cells ⟨vs⟩ t)))∧
   ∀(w:World) (T:aE),T bF=some ⟨w.heap.size,0,vs.length⟩→aC T x (v w)):=by
 unfold tq at h;split at h
 ·rename_i j a;split at h
  case h_2=>cases h
  rename_i z X;simp only[aB,aN]at h;obtain⟨rfl,rfl⟩:=h;obtain⟨i,Y,hi,Z,aa,K,an⟩:=tG X β;refine⟨.gen z,S,Pure.refl _,rfl,rfl,rfl,rfl,fun _=>⟨Y.cells.toList,j,fun w=>.pointer (some (at' w.heap.size 0)),lX _,?_,fun w=>?_,fun w T o=>?_⟩⟩
  ·exact aa
  ·obtain⟨L,M,N,O,after,guard⟩:=b;simp only at a;subst a;simp[execOp,Instr.alloc,zeroValue,typeInfo,hi,Z,newVar,newRow,at']
  ·exact .ptr _ (.c 0) _ o
 ·rename_i t l c a;split at h
  case h_2=>cases h
  rename_i ab f B;split at h
  case h_2=>cases h
  rename_i ad ae n ag k q;simp only[aB,aN]at h;obtain⟨rfl,rfl⟩:=h;obtain⟨E,d,ao,y,F,rfl,s,aj⟩:=PO B (A l) (A c);have ak:E.H=[]:=F.H;simp only[af.sl,af.ref.injEq,Ref.sl.injEq]at s;obtain⟨_,rfl,rfl,rfl⟩:=s;have I:k=⟨d,.own⟩:=by
   simp only[ai.new,ak,jP,Ok]at q;exact q.1.symm
  subst I;refine⟨d,{S with dec:=E.dec,cond:=E.cond},⟨rfl,rfl,fun b=>F.ok b⟩,rfl,rfl,F.low,rfl,fun ok=>?_⟩;obtain⟨vs,j,al,h1,h2,h3,h4⟩:=aj ok;refine⟨vs,j,fun w=>.slice (some (at' w.heap.size 0)) n.v y.v,al,h1 β,fun w=>?_,fun w T o=>?_⟩
  ·obtain⟨L,M,N,O,after,guard⟩:=b;simp only at a;subst a;simp only[execOp];simp[h2 w]
  ·exact .sl _ (.c 0) n (some y) (some (at' w.heap.size 0)) y.v h3 (fun C e=>by injection e with e;subst e;rfl)
    (.inr ⟨_,o,rfl,by show(0:Nat)+y.v≤vs.length;omega⟩)
 ·rename_i t n J a;split at h
  case h_2=>cases h
  rename_i ab f B;split at h
  case h_2=>cases h
  rename_i ad ae m ag k q;simp only[aB,aN]at h;obtain⟨rfl,rfl⟩:=h;obtain⟨r,W,j,rfl,s,am,ap,bf⟩:=PY (P:=C.P) B (FL A J.toList);simp only[af.ref.injEq,Ref.sl.injEq]at s;obtain⟨_,rfl,rfl,rfl⟩:=s;have I:k=⟨.gen r,.own⟩:=by
   simp only[ai.new,jP,Ok]at q;exact q.1.symm
  subst I;refine⟨.gen r,S,Pure.refl _,rfl,rfl,rfl,rfl,fun _=>⟨W.toList,j,fun w=>.slice (some (at' w.heap.size 0)) n n,lX _,am,fun w=>?_,fun w T o=>?_⟩⟩
  ·obtain⟨L,M,N,O,after,guard⟩:=b;simp only at a;subst a;have bf:=bf w;have K:J.map (fun(x:Nat×Operand)=>(x.1,u x.2))=⟨J.toList.map fun p=>(p.1,u p.2)⟩:=by apply jO;simp
   simp only[execOp];rw[K];simp[bf]
  ·exact .sl _ (.c 0) (.c n) (some (.c n)) (some (at' w.heap.size 0)) n (aX _) (fun C e=>by injection e with e;subst e;rfl)
    (.inr ⟨_,o,rfl,by show(0:Nat)+n≤W.toList.length;omega⟩)
 ·cases h
end
end
section
variable [aR][aF]
open Region
variable{Q:Oper}{k j:Nat}{S R:ai}{V:Op}{U:Oper}{b:Nat}
section
variable{C:eK}{call:gf}{aj:Nat}{dyn:Bool}{ops:List Oper}
def gk(S:ai):(iI dyn S).H=S.H:=by cases dyn<;>rfl
def JG(S:ai):(iI dyn S).ok↔S.ok:=by cases dyn<;>exact Iff.rfl
def tJ(S R:ai):(EG dyn S R).H=R.H:=by cases dyn<;>rfl
def JH(S R:ai):(EG dyn S R).ok↔R.ok:=by cases dyn<;>exact Iff.rfl
def FU{bF:Nat}{c f:aI}{l:Option g5}(h:stepW C call aj dyn ops bF Q c S=some (f,R,l)):
 ∃b a,mH ops (c.ev aj) Q.guard S=some (b,a)∧Pure S a∧
  ((b=false∧f=c.put aj Q.dst (.obj .bx [])∧R=a)∨
   (b=true∧gh Q.op=true∧∃v,tq C (c.ev aj) Q.op bF a=some (v,R)∧f=c.put aj Q.dst v)∨
   (b=true∧gh Q.op=false∧∃v e,ee C call (c.ev aj) Q.op (iI dyn a)=some (v,e)∧R=EG dyn a e∧f=c.put aj Q.dst v∧l=oJ C.P dyn (c.ev aj) Q.op a e)):=by
 unfold stepW at h;split at h
 ·cases h
 ·rename_i a d;simp only[aB,aN]at h;obtain⟨rfl,rfl,rfl⟩:=h;exact⟨false,a,d,CJ d,.inl ⟨rfl,rfl,rfl⟩⟩
 ·rename_i a d;split at h
  ·rename_i g;split at h
   ·cases h
   rename_i v e i;simp only[aB,aN]at h;obtain⟨rfl,rfl,rfl⟩:=h;exact⟨true,a,d,CJ d,.inr (.inl ⟨rfl,g,v,i,rfl⟩)⟩
  ·rename_i g;split at h
   ·cases h
   rename_i v e i;simp only[aB,aN]at h;obtain⟨rfl,rfl,rfl⟩:=h;exact⟨true,a,d,CJ d,.inr (.inr ⟨rfl,g,v,e,i,rfl,rfl,rfl⟩)⟩
def Qt{ev:Operand→af}{bF:Nat}{e:af}(h:tq C ev V bF S=some (e,R)):(∃k,k.mode=.own∧R.H=fe k bF S.H)∧(R.ok→S.ok):=by
 unfold tq at h;split at h
 ·split at h
  ·simp only[aB,aN]at h;obtain⟨_,rfl⟩:=h;exact⟨⟨_,rfl,rfl⟩,id⟩
  ·cases h
 ·split at h
  case h_2=>cases h
  rename_i f g a;split at h
  case h_2=>cases h
  rename_i i U n l k c;simp only[aB,aN]at h;obtain⟨_,rfl⟩:=h;have d:=Qd a;refine⟨⟨k,?_,rfl⟩,d.ok⟩;unfold tg at a
  repeat'(split at a)
  all_goals(try(cases a;done))
  simp only[aB,aN]at a;obtain⟨_,rfl⟩:=a;have h1:=B.fU ‹B.cj (N.fits _) _=some _›;have h2:=B.fU ‹B.cj (gW _ _ _) _=some _›;have m:=(h2.1.trans h1.1).H;simp only[ai.new,m,jP,Ok]at c;rw[←c.1]
 ·split at h
  case h_2=>cases h
  rename_i f g a;split at h
  case h_2=>cases h
  rename_i i U n l k c;simp only[aB,aN]at h;obtain⟨_,rfl⟩:=h;have d:=Qe a;refine⟨⟨k,?_,rfl⟩,d.ok⟩;unfold th at a
  repeat'(split at a)
  all_goals(try(cases a;done))
  simp only[aB,aN]at a;obtain⟨_,rfl⟩:=a;simp only[ai.new,jP,Ok]at c;rw[←c.1]
 ·cases h
def aab:∀(r:List Oper) (i bF:Nat) (f t:aI) (S R:ai) (m:List (Nat×g5)),uW C call aj dyn ops r i bF f S=some (t,R,m)→
 ∃(aH:Nat→aI×ai) (evs:Nat→Option g5),aH 0=(f,S)∧aH r.length=(t,R)∧
  (∀(k:Nat) Q,r[k]? =some Q→stepW C call aj dyn ops (bF+iJ (r.take k)) Q (aH k).1 (aH k).2=some ((aH (k+1)).1,(aH (k+1)).2,evs k))∧
  (∀(k:Nat) a,k<r.length→evs k=some a→(i+k,a)∈m)∧
  ∀eZ,zE eZ m=false→∀(k c:Nat) a g,k<c→c<r.length→evs k=some a→evs c=some g→pP eZ (i+k) a (i+c) g=false:=by
 intro r
 induction r with
 |nil=>
  intro i bF f t S R m h;simp only[uW,aB,aN]at h;obtain⟨rfl,rfl,rfl⟩:=h;exact⟨fun _=>(f,S),fun _=>none,rfl,rfl,fun k Q n=>by simp at n,fun k a o=>by simp at o,fun eZ _ k c a g _ o=>by simp at o⟩
 |cons Q r w=>
  intro i bF f t S R m h;simp only[uW]at h;split at h
  ·cases h
  rename_i W X u E;split at h
  ·cases h
  rename_i Y Z x F;simp only[aB,aN]at h;obtain⟨rfl,rfl,rfl⟩:=h;obtain⟨aH,evs,H,I,J,y,K⟩:=w _ _ _ _ _ _ _ F;refine⟨fun k=>match k with|0=>(f,S)|k+1=>aH k,fun k=>match k with|0=>u|k+1=>evs k,rfl,by simpa using I,?_,?_,?_⟩
  ·intro k U n;cases k with
   |zero=>
    simp at n;subst n;simp only[List.take_zero,iJ,gd,H];exact E
   |succ k=>
    have:=J k U (by simpa using n);have a:bF+iJ ((Q::r).take (k+1))=EH Q bF+iJ (r.take k):=by
     simp only[List.take_succ_cons,iJ,EH];cases gh Q.op<;>simp<;>omega
    rw[a];exact this
  ·intro k a o e;cases k with
   |zero=>
    simp only at e;rw[e];simp[B3]
   |succ k=>
    have:=y k a (by simpa using o) e;have z:i+(k+1)=i+1+k:=by omega
    rw[z];cases u<;>simp[B3,this]
  ·intro eZ d k c a g aa A e B;have L:zE eZ x=false:=by
    cases u with
    |none=>exact d|some u=>
     simp only[B3,zE]at d;split at d
     ·cases d
     ·exact d
   cases c with
   |zero=>omega|succ c=>
    have D:i+(c+1)=i+1+c:=by omega
    cases k with
    |succ k=>
     have M:i+(k+1)=i+1+k:=by omega
     rw[M,D];exact K eZ L k c a g (by omega) (by simpa using A) e B
    |zero=>
     simp only at e;subst e;simp only[B3,zE]at d;split at d
     ·cases d
     rename_i N;have O:=y c g (by simpa using A) B;rw[D];have P:∀(l:List (Nat×g5)),clash eZ i a l=false→∀p∈l,pP eZ i a p.1 p.2=false:=by
      intro l
      induction l with
      |nil=>intro _ p s;cases s
      |cons q l w=>
       obtain⟨j,z⟩:=q;intro v p s;simp only[clash]at v;split at v
       ·cases v
       rename_i h1;rcases jN.1 s with rfl|s
       ·exact h1
       ·exact w v p s
     exact P x N _ O
end
structure jC(C:eK)(call:gf)(aj:Nat)(bC:Nat)(dyn:Bool)(ops:Array Oper)(base:Nat)(aH:Nat→aI×ai)(evs:Nat→Option g5):Prop where
 reg:tI C.P bC dyn ops true=true
 ext:xQ call
 step:∀(k:Nat) Q,ops[k]? =some Q→stepW C call aj dyn ops.toList (base+iJ (ops.toList.take k)) Q (aH k).1 (aH k).2=some ((aH (k+1)).1,(aH (k+1)).2,evs k)
 evs:∀(k oA:Nat) e Oz,k<oA→oA<ops.size→evs k=some e→evs oA=some Oz→pP (B4 ops) k e oA Oz=false
 pad:∀b,base≤b→b<base+iJ ops.toList→aU b (aH 0).2.H=some ⟨.gen [],.bn⟩
 len:(aH 0).2.H.length=base+iJ ops.toList
namespace jC
variable{C:eK}{call:gf}{aj bC:Nat}{dyn:Bool}{ops:Array Oper}{base:Nat}{aH:Nat→aI×ai}{evs:Nat→Option g5}
def bF(ops:Array Oper)(base k:Nat):Nat:=base+iJ (ops.toList.take k)
def Qu(a b:List Oper):iJ (a++b)=iJ a+iJ b:=by
 induction a with
 |nil=>simp[iJ]|cons Q a c=>simp only[ng,iJ];cases gh Q.op<;>simp[c]<;>omega
def FV(a:ops[k]? =some Q)(c:gh Q.op=true)(h:k<j):bF ops base k<bF ops base j:=by
 have d:ops.toList[k]? =some Q:=by simpa using a
 have e:ops.toList.take j=ops.toList.take (k+1)++(ops.toList.take j).drop (k+1):=by
  have:=(Em (k+1) (ops.toList.take j)).symm;rw[List.take_take,Bi (by omega)]at this;exact this
 have f:ops.toList.take (k+1)=ops.toList.take k++[Q]:=by
  rw[Wm];simp[d]
 unfold bF;rw[e,Qu,f,Qu];simp only[iJ,c];omega
def vC(a:ops[k]? =some Q)(c:gh Q.op=true):bF ops base k<base+iJ ops.toList:=by
 have:=FV (base:=base) a c (j:=ops.size+k+1) (by omega);unfold bF at this⊢;rw[qw (i:=ops.size+k+1) (by simp;omega)]at this;exact this
def CO(k:Nat):base≤bF ops base k:=by unfold bF;omega
def JI(a:ops[k]? =some Q)(c:gh Q.op=true)(d:ops[j]? =some U)(e:gh U.op=true)(h:bF ops base k=bF ops base j):k=j:=by
 rcases w6 k j with h1|h1|h1
 ·have:=FV (base:=base) a c h1;omega
 ·exact h1
 ·have:=FV (base:=base) d e h1;omega
variable(T:jC C call aj bC dyn ops base aH evs)
include T
def vD(n:ops[k]? =some Q):
 ((aH (k+1)).2.ok→(aH k).2.ok)∧
 ((aH (k+1)).2.H=(aH k).2.H∨
  (gh Q.op=true∧∃b,b.mode=.own∧(aH (k+1)).2.H=fe b (bF ops base k) (aH k).2.H)∨
  (gh Q.op=false∧kP Q.op=true∧∃v c g,Pure (aH k).2 c∧ee C call ((aH k).1.ev aj) Q.op (iI dyn c)=some (v,g)∧(aH (k+1)).2.H=g.H∧Ext (iI dyn c) g∧evs k=oJ C.P dyn ((aH k).1.ev aj) Q.op c g)):=by
 obtain⟨b,c,r,d,h|h|h⟩:=FU (T.step k Q n)
 ·obtain⟨_,_,h⟩:=h;rw[h];exact⟨d.ok,.inl d.H⟩
 ·obtain⟨_,i,v,e,_⟩:=h;obtain⟨⟨o,h1,h2⟩,h3⟩:=Qt e;exact⟨fun Q=>d.ok (h3 Q),.inr (.inl ⟨i,o,h1,by rw[h2,d.H];rfl⟩)⟩
 ·obtain⟨_,i,v,g,e,l,_,p⟩:=h;have m:=CH T.ext e;refine⟨fun Q=>d.ok ((JG c).1 (m.ok ((JH c g).1 (by rw[←l];exact Q)))),?_⟩;rcases kinds Q.op with a|a|a|a|a
  ·left;have:=(vA (f:=ee C call ((aH k).1.ev aj) Q.op) (fun T cs _ _=>FM a) e).H;rw[l,tJ,this,gk,d.H]
  ·left;have:=(vA (f:=ee C call ((aH k).1.ev aj) Q.op) (fun T cs q _=>CG a (fun b _=>by rw[q])) e).H;rw[l,tJ,this,gk,d.H]
  ·rw[i]at a;cases a
  ·exact .inr (.inr ⟨i,a,v,c,g,d,e,by rw[l,tJ],m,p⟩)
  ·rw[a]at e;cases e
def CP(h:k≤j)(f:j≤ops.size):(aH k).2.H.length≤(aH j).2.H.length:=by
 induction j with
 |zero=>have:k=0:=by omega
        subst this;exact aX _
 |succ j a=>
  rcases cv k (j+1)with h1|h1
  ·refine gb (a (by omega) (by omega)) ?_;have c:j<ops.size:=by omega
   obtain⟨_,h|⟨_,b,_,h⟩|⟨_,_,v,g,i,d,_,h,e,_⟩⟩:=T.vD (dN c)
   ·rw[h];exact aX _
   ·rw[h,iO,lN];exact aX _
   ·rw[h];have:=e.len;rw[gk,d.H]at this;exact this
  ·have:k=j+1:=by omega
   subst this;exact aX _
def aac(h:k≤j)(d:j≤ops.size)(ok:(aH j).2.ok):(aH k).2.ok:=by
 induction j with
 |zero=>have:k=0:=by omega
        subst this;exact ok
 |succ j a=>
  rcases cv k (j+1)with h1|h1
  ·have c:j<ops.size:=by omega
   exact a (by omega) (by omega) ((T.vD (dN c)).1 ok)
  ·have:k=j+1:=by omega
   subst this;exact ok
def early(a:ops[j]? =some Q)(d:gh Q.op=true):∀k,k≤j→aU (bF ops base j) (aH k).2.H=some ⟨.gen [],.bn⟩:=by
 have n:j<ops.size:=(dW.1 a).1;intro k
 induction k with
 |zero=>intro _;exact T.pad _ (CO j) (vC a d)|succ k f=>
  intro o;have c:=f (by omega);have e:k<ops.size:=by omega
  obtain⟨_,h|⟨g,b,_,h⟩|⟨_,_,v,p,q,i,_,h,l,_⟩⟩:=T.vD (dN e)
  ·rw[h];exact c
  ·rw[h,kS,ak]
   ·exact c
   ·intro⟨m,_⟩;have:=JI (dN e) g a d m;omega
  ·rw[h];exact l.bn _ _ (by rw[gk,i.H];exact c) rfl
def owned(f:ops[j]? =some Q)(g:gh Q.op=true):∀k,k≤ops.size→∀c,aU (bF ops base j) (aH k).2.H=some c→c.mode≠.ro:=by
 intro k
 induction k with
 |zero=>
  intro _ c a;rw[T.pad _ (CO j) (vC f g)]at a;injection a with a;subst a;simp
 |succ k e=>
  intro o c a d;have i:k<ops.size:=by omega
  obtain⟨_,h|⟨p,b,l,h⟩|⟨_,_,v,q,r,m,_,h,n,_⟩⟩:=T.vD (dN i)
  ·rw[h]at a;exact e (by omega) c a d
  ·rw[h,kS]at a;split at a
   ·injection a with a;subst a;rw[l]at d;cases d
   ·exact e (by omega) c a d
  ·rw[h]at a;have:=n.ro _ _ a d;rw[gk,m.H]at this;exact e (by omega) c this d
def cW(aH:Nat→aI×ai)(b k:Nat):Prop:=aU b (aH (k+1)).2.H≠aU b (aH k).2.H
def tK(a:ops[k]? =some Q)(h:cW aH b k):kP Q.op=true∨(gh Q.op=true∧b=bF ops base k):=by
 obtain⟨_,h1|⟨c,f,_,h1⟩|⟨_,d,_⟩⟩:=T.vD a
 ·exact absurd (by rw[h1]) h
 ·right;refine⟨c,?_⟩;unfold cW at h;rw[h1,kS]at h;split at h
  ·rename_i e;exact e.1.symm
  ·exact absurd rfl h
 ·exact .inl d
omit T in
def JJ(h:gh V=true):kP V=false:=by cases V<;>simp_all[gh,kP]
def JK{d:Nat}(g:k<d)(f:ops[k]? =some Q)(e:ops[d]? =some U)(h:cW aH b k)(i:cW aH b d):eZ ops d k:=by
 rcases vB T.reg g f e with h1|h1
 ·exact h1
 exfalso;simp only[pZ,dH,ni,y9,Bt,pM]at h1;obtain⟨⟨⟨_,h3⟩,h4⟩,_⟩:=h1;rcases T.tK f h with a|⟨a,rfl⟩<;>rcases T.tK e i with c|⟨c,l⟩
 ·rcases h3 with h3|h3<;>simp_all
 ·subst l;have m:=T.early e c k (by omega);have n:=T.early e c (k+1) (by omega);exact h (by rw[m,n])
 ·rcases h4 with h4|h4
  ·simp_all
  ·simp_all
 ·have:=FV (base:=base) f a g;omega
end jC
end
end Go.aA
end

/- A part of the proof of FnArgon2. No condition. -/
import Derived.Test.YtcminalaicidiaaGreatDoorWA
import Derived.Conc.CompanyWords
import Derived.Below
import Derived.Laws.CopyRow
import Derived.Laws.Append
import Derived.Laws.MakeOwn
import Derived.ChangeKeysEq
set_option maxRecDepth 100000
set_option maxHeartbeats 8000000
set_option linter.all false
def Wd:=@Array.foldl_toList
def gX:=@Array.getD_eq_getD_getElem?
def Eg:=@Array.getElem?_eq_none
def HY:=@Array.getElem?_toList
def Ef:=@Array.length_toList
def N4:=@Array.mapM_eq_mapM_toList
def H6:=@Array.mem_def
def Wj:=@Array.mem_toList_iff
def Wl:=@Array.size_push
def V5:=@Array.toList_setIfInBounds
def y3:=@Bool.and_eq_false_iff
def dI:=@Bool.and_eq_true
def nj:=@Bool.not_eq_true'
def Wi:=@Bool.not_true
def Bo:=@Bool.or_eq_false_iff
def pN:=@Bool.or_eq_true
def anV:=@Go.Conc.listed_nil
def rM:=@Int.le_refl
def anY:=@Int.toNat_le_toNat
def HV:=@Int.toNat_zero
def w5:=@List.all_eq_true
def y5:=@List.append_assoc
def uG:=@List.append_nil
def N6:=@List.cons.injEq
def HZ:=@List.drop_drop
def V4:=@List.drop_left'
def anX:=@List.drop_of_length_le
def HX:=@List.drop_zero
def Bh:=@List.eq_nil_of_length_eq_zero
def wX:=@List.ext_getElem?
def V3:=@List.flatten_cons
def dY:=@List.getD_eq_getElem?_getD
def gV:=@List.getElem?_append_left
def gL:=@List.getElem?_append_right
def bX:=@List.getElem?_eq_getElem
def dz:=@List.getElem?_eq_none
def ef:=@List.getElem?_map
def N1:=@List.getElem?_of_mem
def HW:=@List.getElem?_range
def mz:=@List.getElem?_replicate
def wW:=@List.getElem?_set
def pL:=@List.getElem?_set_self
def lM:=@List.getElem?_take
def N2:=@List.getElem_map
def V9:=@List.getElem_mem
def mA:=@List.length_map
def ni:=@List.length_replicate
def pM:=@List.length_take
def We:=@List.mapM_cons
def Bl:=@List.map_append
def Wb:=@List.map_drop
def anZ:=@List.map_replicate
def HU:=@List.map_set
def Wa:=@List.map_take
def Wh:=@List.range_eq_range'
def anW:=@List.replicate_succ
def V6:=@List.take_add_one
def Ed:=@List.take_append_drop
def Wc:=@List.take_left
def V8:=@List.take_length
def qy:=@List.take_of_length_le
def iD:=@Nat.add_assoc
def Bi:=@Nat.add_comm
def Bj:=@Nat.add_mul
def uF:=@Nat.add_sub_cancel_left
def N3:=@Nat.ble_eq_true_of_le
def qz:=@Nat.eq_of_beq_eq_true
def Ee:=@Nat.le_mul_of_pos_right
def Wf:=@Nat.le_of_ble_eq_true
def Bm:=@Nat.min_le_left
def Bn:=@Nat.min_le_right
def V7:=@Nat.mod_eq_sub_mod
def gW:=@Nat.mul_comm
def fP:=@Nat.mul_le_mul_right
def y4:=@Nat.mul_one
def jL:=@Nat.succ_mul
def wZ:=@Nat.zero_mul
def N5:=@Option.map_map
def Wk:=@Option.mem_def
def iX:=@congrArg
def wY:=@decide_eq_false_iff_not
noncomputable section
namespace Go.ay
section
open Conc
open Go.ConcR (DC0)
section
variable{P:Program}{p:dm}{Next Q Anch R S T:Goroutine→World→Prop}{n vs r:Nat}{g:Goroutine}{w:World}
def zK.mono(d:∀g w,Next g w→Q g w)(h:zK P p Next g w):zK P p Q g w:=let⟨a,g',b,c⟩:=h;⟨a,g',b,fun e=>d _ _ (c e)⟩
def vg.mono(d:∀g w,Next g w→Q g w)(h:vg P p Next g w):vg P p Q g w:=let⟨a,g',b,c⟩:=h;⟨a,g',b,c.mono fun _ _=>zK.mono d⟩
def zL.mono(a:∀g w,Next g w→Q g w)(h:zL P p Next g w):zL P p Q g w:=⟨h.1,fun d=>let⟨g',b,c⟩:=h.2 d;⟨g',b,c.mono fun _ _=>vg.mono a⟩⟩
def xu.mono(a:∀g w,Next g w→Q g w)(h:xu P p Next g w):xu P p Q g w:=⟨h.1,h.2.1,h.2.2.1,fun d=>let⟨g',b,c⟩:=h.2.2.2 d;⟨g',b,c.mono fun _ _=>zL.mono a⟩⟩
def zM.mono(f:∀g w,Next g w→Q g w)(cB:∀g w,Anch g w→R g w)(h:zM P p Next Anch vs g w):zM P p Q R vs g w:=
 ⟨h.1,fun v d e=>⟨fun a=>let⟨g',b,c⟩:=(h.2 v d e).1 a;⟨g',b,c.mono fun _ _=>xu.mono f⟩,fun a=>let⟨g',b,c⟩:=(h.2 v d e).2 a;⟨g',b,c.mono cB⟩⟩⟩
def qF.mono(e:∀g w,Next g w→Q g w)(cB:∀g w,Anch g w→R g w)(h:qF P p Next Anch g w):qF P p Q R g w:=
 ⟨h.1,fun v f i=>let⟨g',b,c,d⟩:=h.2 v f i;⟨g',b,fun a=>(c a).mono fun _ _=>vg.mono e,fun a=>(d a).mono fun _ _=>zM.mono e cB⟩⟩
def xw.mono(cB:∀g w,Anch g w→R g w)(h:xw P p Anch g w):xw P p R g w:=let⟨a,g',b,c⟩:=h;⟨a,g',b,c.mono cB⟩
def OX(h:Goes P true (bR p) DC0 (fun g w=>g.status=.running∧∀a,bR p w a→(stepG P true g a).goes fun g' w' b=>zJ p a w' b∧fH P p S g' w') n g w):fH P p S g w:=
 Way.trans bR.refl bR.aH (iy h) fun g w ⟨d,h⟩=>.one d fun a e=>by
  have:=h a e;cases c:stepG P true g a with
  |go g' w' b=>rw[c]at this;exact⟨g',w',b,rfl,this⟩|_=>rw[c]at this;exact this.elim
def oR.ahead(h:fH P p S g w)(k:∀g w,S g w→oR P p Anch r g w):oR P p Anch r g w:=by
 cases r with
 |zero=>exact Way.trans bR.refl bR.aH h k|succ r=>exact Way.trans bR.refl bR.aH h k
def OY{a:Addr}(h:p.mM a.block)(cR:a.block<w.heap.size):zJ p w w #[⟨.cell a,false,false⟩]:=by
 refine⟨⟨w.drawn,rfl⟩,fun d c=>?_⟩;rw[anT]at c;subst c;refine⟨⟨fun e b=>?_,by simp[MemAct.ofEvent],by rw[yZ];exact cR⟩,by simp,by simp⟩;rw[yZ]at b;simp only[MemAct.touch?,aD]at b;subst b;exact .inr ⟨⟨a,rfl,.inl h⟩,by simp,rfl⟩
end
end
end Go.ay
namespace Go.Proofs.YtcminalaicidiaaGreatDoor
section
open Go Go.ay Conc Conc.Lib RowKit
open Go.ConcR (KK WgAt stA smA rd wr mk DC0 wgBlock)
open Go.ConcR.Gen Go.ConcN.Gen
open Go.ConcN (WgLive)
def lu:Obj:=.cells #[.int .u64 0,.int .u32 0] 112
def Ci(T:Array Value)(a:Nat)(cs:List Frame):Goroutine:=G (iZ (T.setIfInBounds 15 (cA a)) (.inRegion oT []::.code (dQ j9)::ki)) cs
def X0(T:Array Value)(cs:List Frame)(w:World):stepG Tryz.prog true (zR T cs) w=.go (Ci T w.heap.size cs) (w.alloc lu) #[]:=by
 have h:(stepG Tryz.prog true (zR T cs) w).goes fun g w' a=>g=Ci T w.heap.size cs∧w'=w.alloc lu∧a=#[]:=by
  simp only[zR,iZ,oT,j9,lR,nC,lQ,pU,Tryz.f33,ij,dQ,j7,j8,nB,opsOf];refine goes_oper_k rfl rfl (by k_ne) (fun d c=>?_)
  go_simp
  refine c _ _ ⟨rfl,rfl,anV (by simp[go_sem])⟩
 cases b:stepG Tryz.prog true (zR T cs) w with
 |go g' w' a=>rw[b]at h;obtain⟨rfl,rfl,rfl⟩:=h;rfl
 |_=>rw[b]at h;exact h.elim
structure r5(n0:Nat)(n s:Int)(Wg:Nat)(k:Int)(T:Array Value):Prop extends TS n0 n T where
 t14:T[14]? =some (.int .u32 s)
 t15:T[15]? =some (cA Wg)
 t16:T[16]? =some (.int .u32 k)
def call44(n0:Nat)(n s k:Int)(a:Nat):Deferred:={target:=.fn (.func 44) (mS n0),args:=#[.int .u32 n,.int .u32 s,.int .u32 k,cA a]}
def vn:List Item:=.code (dQ (j8 (j7 (dQ kg))))::.inBlock 5::.code (dQ (dQ kg))::.inLoop kg::.inBlock 4::.code (dQ (dQ j9))::ki
def zT(T:Array Value)(a:Nat)(cs:List Frame):Goroutine:=G ((base 49).at ⟨#[.pointer (some ⟨a,0,none⟩),.int .i64 1]++Array.replicate 115 undef,[]⟩ [.code (body_add link)]) (iZ T (.inRegion nD [0]::vn)::cs)
def xC(T:Array Value):Frame:=iZ T (.inRegion mR [0]::ki)
def zU(T:Array Value)(a:Nat)(cs:List Frame):Goroutine:=G ((base 50).at ⟨#[.pointer (some ⟨a,0,none⟩)]++Array.replicate 83 undef,[]⟩ [.code (body_wait link)]) (xC T::cs)
def ja(p:dm)(n0:Nat)(dD:Int)(w:World):Prop:=p.mM (n0+3)∧w.heap[n0+3]? =some (.cells #[.int .u32 dD] 43)
section
variable{p:dm}{n0:Nat}{n s k dD:Int}{cs:List Frame}{w P:World}
def ja.rely(h:ja p n0 dD w)(r:bR p w P):ja p n0 dD P:=⟨h.1,(r.eD _ (dX.1 h.2).1 h.1).trans h.2⟩
def dx(h:ja p n0 dD w∧p.live w)(r:bR p w P):ja p n0 dD P∧p.live P:=⟨h.1.rely r,r.live h.2⟩
def OZ(h:ja p n0 dD w):w.cell? ⟨n0+3,0,none⟩=some (.int .u32 dD):=by simp[World.cell?,h.2]
def X1{T:Array Value}(t:TS n0 n T)(b:T[14]? =some (.int .u32 s))(a:ja p n0 dD w∧p.live w):
 fH Tryz.prog p (fun g w=>(∃c,g=vm c cs∧r5 n0 n s p.Wg 0 c)∧ja p n0 dD w∧p.live w) (Ci T p.Wg cs) w:=by
 obtain⟨d,e,h,i,j,l,m,o,q,r⟩:=t;obtain⟨f,rfl⟩:=r3 T d;simp only[rK,s9,rL,aD]at e h i j l m o q r b;clear d;refine iy (n:=40) ?_;simp only[iZ,Ci,pV,ki,vn,j9,lR,nC,kg,lQ,pU,Tryz.f33,zT,zU,xC,body_add,body_wait,addFn,waitFn,Array.replicate,List.replicate,Bg,nh,jK,ij,dQ,j7,j8,nB,opsOf,cA,mS,oT,nD,qJ,mR]at *;simp only[e,h,i,j,l,m,o,q,r,b]
 walk_nrm
 u_c stepG_region_end dx a
 u_c stepG_seq dx a
 u_c stepG_seq dx a
 u_reg dx a
 u_op dx a
 u_c stepG_region_end dx a
 u_c stepG_block dx a
 u_c stepG_loop dx a
 exact Goes.stop fun P u=>⟨⟨_,rfl,⟨⟨rfl,rfl,rfl,rfl,rfl,rfl,rfl,rfl,rfl,rfl⟩,rfl,rfl,rfl⟩⟩,dx a u⟩
def X2{T:Array Value}(C:r5 n0 n s p.Wg k T)(F:k<dD)(b:ja p n0 dD w∧p.live w):
 fH Tryz.prog p (fun g w=>(∃e,g=zT e p.Wg cs∧r5 n0 n s p.Wg k e)∧ja p n0 dD w∧p.live w) (vm T cs) w:=by
 obtain⟨⟨h,i,j,l,m,o,q,r,t,u⟩,v,x,y⟩:=C;obtain⟨f,rfl⟩:=r3 T h;simp only[rK,s9,rL,aD]at i j l m o q r t u v x y;clear h;have H:=zQ;refine OX (n:=9) ?_;simp only[iZ,vm,pV,ki,vn,j9,lR,nC,kg,lQ,pU,Tryz.f33,zT,zU,xC,body_add,body_wait,addFn,waitFn,Array.replicate,List.replicate,Bg,nh,jK,ij,dQ,j7,j8,nB,opsOf,cA,mS,oT,nD,qJ,mR]at *;simp only[i,j,l,m,o,q,r,t,u,v,x,y]
 u_c stepG_seq dx b
 u_c stepG_seq dx b
 u_reg dx b
 u_op dx b
 refine Goes.stop fun P c=>⟨rfl,fun I z=>?_⟩;replace b:=dx (dx b c) z;clear c z;refine goes_oper_k rfl rfl (by k_ne) (fun D d=>?_);have A:=OZ b.1;go_simp;refine d _ _ ⟨⟨⟨_,rfl⟩,fun J E=>by have B:=mem_listed E;clear d;simp[go_sem,A]at B;subst B;exact(OY (a:=⟨n0+3,0,none⟩) b.1.1 (dX.1 b.1.2).1).2 _ (by simp)⟩,iy (n:=40) ?_⟩;clear d D A
 u_op dx b
 u_c stepG_region_end dx b
 u_cnd true dx b
 u_c stepG_skip dx b
 u_c stepG_seq dx b
 u_c stepG_block dx b
 u_c stepG_seq dx b
 u_reg dx b
 u_call H.f_add (nm_add link) addFn dx b
 exact Goes.stop fun P c=>⟨⟨_,rfl,⟨⟨rfl,rfl,rfl,rfl,rfl,rfl,rfl,rfl,rfl,rfl⟩,rfl,rfl,rfl⟩⟩,dx b c⟩
def X3{T:Array Value}(C:r5 n0 n s p.Wg k T)(F:¬k<dD)(b:ja p n0 dD w∧p.live w):
 fH Tryz.prog p (fun g w=>(∃e,g=zU e p.Wg cs∧r5 n0 n s p.Wg k e)∧ja p n0 dD w∧p.live w) (vm T cs) w:=by
 obtain⟨⟨h,i,j,l,m,o,q,r,t,u⟩,v,x,y⟩:=C;obtain⟨f,rfl⟩:=r3 T h;simp only[rK,s9,rL,aD]at i j l m o q r t u v x y;clear h;have H:=zQ;refine OX (n:=9) ?_;simp only[iZ,vm,pV,ki,vn,j9,lR,nC,kg,lQ,pU,Tryz.f33,zT,zU,xC,body_add,body_wait,addFn,waitFn,Array.replicate,List.replicate,Bg,nh,jK,ij,dQ,j7,j8,nB,opsOf,cA,mS,oT,nD,qJ,mR]at *;simp only[i,j,l,m,o,q,r,t,u,v,x,y]
 u_c stepG_seq dx b
 u_c stepG_seq dx b
 u_reg dx b
 u_op dx b
 refine Goes.stop fun P c=>⟨rfl,fun I z=>?_⟩;replace b:=dx (dx b c) z;clear c z;refine goes_oper_k rfl rfl (by k_ne) (fun D d=>?_);have A:=OZ b.1;go_simp;refine d _ _ ⟨⟨⟨_,rfl⟩,fun J E=>by have B:=mem_listed E;clear d;simp[go_sem,A]at B;subst B;exact(OY (a:=⟨n0+3,0,none⟩) b.1.1 (dX.1 b.1.2).1).2 _ (by simp)⟩,iy (n:=40) ?_⟩;clear d D A
 u_op dx b
 u_c stepG_region_end dx b
 u_cnd false dx b
 u_exit dx b
 u_reg dx b
 u_call H.f_wait (nm_wait link) waitFn dx b
 exact Goes.stop fun P c=>⟨⟨_,rfl,⟨⟨rfl,rfl,rfl,rfl,rfl,rfl,rfl,rfl,rfl,rfl⟩,rfl,rfl,rfl⟩⟩,dx b c⟩
def bf(T:Array Value)(cs:List Frame):Goroutine:=G (iZ T (.inRegion qJ []::.inBlock 5::.code (dQ (dQ kg))::.inLoop kg::.inBlock 4::.code (dQ (dQ j9))::ki)) cs
def X4{T:Array Value}(y:r5 n0 n s p.Wg k T)(a:ja p n0 dD w∧p.live w):
 fH Tryz.prog p (fun g w=>(g.status=.running∧∃b,stepG Tryz.prog true g w=.spawn (bf b cs) (born Tryz.prog (call44 n0 n s k p.Wg)) w #[]∧r5 n0 n s p.Wg k b)∧ja p n0 dD w∧p.live w) (G ((base 33).at ((⟨T,[]⟩:Act).put ((nD[0]?).bind (·.dst)) (.tuple #[])) (.inRegion nD []::vn)) cs) w:=by
 obtain⟨⟨e,h,i,j,l,m,o,q,r,t⟩,u,v,x⟩:=y;obtain⟨f,rfl⟩:=r3 T e;simp only[rK,s9,rL,aD]at h i j l m o q r t u v x;clear e;refine iy (n:=40) ?_;simp only[iZ,vm,pV,ki,vn,j9,lR,nC,kg,lQ,pU,Tryz.f33,zT,zU,xC,body_add,body_wait,addFn,waitFn,Array.replicate,List.replicate,Bg,nh,jK,ij,dQ,j7,j8,nB,opsOf,cA,mS,oT,nD,qJ,mR]at *;simp only[h,i,j,l,m,o,q,r,t,u,v,x]
 walk_nrm
 u_c stepG_region_end dx a
 u_reg dx a
 iterate 4 (u_op dx a)
 refine Goes.stop fun P z=>⟨⟨rfl,_,(stepG_spawn (d:=call44 n0 n s k p.Wg) (w':=P) (f:=.func 44) (c:=mS n0) rfl rfl (by decide) (by simp[go_sem,call44,Deferred.ofValue,cA,mS]) rfl).trans (iX (fun A=>GStep.spawn _ _ _ A) (anV (by simp[go_sem,Deferred.ofValue]))),⟨⟨rfl,rfl,rfl,rfl,rfl,rfl,rfl,rfl,rfl,rfl⟩,rfl,rfl,rfl⟩⟩,dx a z⟩
def X5{T:Array Value}(v:r5 n0 n s p.Wg k T)(y:IntKind.u32.wrap (k+1)=k+1)(a:ja p n0 dD w∧p.live w):
 fH Tryz.prog p (fun g w=>(∃b,g=vm b cs∧r5 n0 n s p.Wg (k+1) b)∧ja p n0 dD w∧p.live w) (bf T cs) w:=by
 obtain⟨⟨c,d,e,h,i,j,l,m,o,q⟩,r,t,u⟩:=v;obtain⟨f,rfl⟩:=r3 T c;simp only[rK,s9,rL,aD]at d e h i j l m o q r t u;clear c;refine iy (n:=40) ?_;simp only[iZ,bf,pV,ki,vn,j9,lR,nC,kg,lQ,pU,Tryz.f33,zT,zU,xC,body_add,body_wait,addFn,waitFn,Array.replicate,List.replicate,Bg,nh,jK,ij,dQ,j7,j8,nB,opsOf,cA,mS,oT,nD,qJ,mR]at *;simp only[d,e,h,i,j,l,m,o,q,r,t,u]
 u_c stepG_region_end dx a
 u_c stepG_inBlock dx a
 u_reg dx a
 iterate 3 (u_op dx a)
 u_c stepG_region_end dx a
 u_c stepG_inLoop dx a
 exact Goes.stop fun P x=>⟨⟨_,rfl,⟨⟨rfl,rfl,rfl,rfl,rfl,rfl,rfl,rfl,rfl,rfl⟩,rfl,rfl,rfl⟩⟩,dx a x⟩
end
end
end Go.Proofs.YtcminalaicidiaaGreatDoor
section
namespace Go.ay
open Conc
section
variable{P:Program}{S:Machine}{Q:Loc→Prop}{U d:Nat}{V:Array Goroutine}{a:Goroutine}{w:World}{sl:Option (Nat×Nat)}{T:Trace}{q:Nat→Nat}{F:FuncId}
def X6(w:World)(d:Nat):AtRel (w.at d) w:=⟨w.drawn,rfl⟩
def iK.to{Stop:lp}(k:∀g w,Stop g w→g.status=.running)(l:∀g w j,AtRel w j→Stop g w→Stop g j)(h:iK P S Q U d V a w sl T q)(m:Way P true AtRel (zN Q U) Stop a w):
 ∃b c w' e f i,iK P S Q U d b c w' e f i∧b.size=V.size∧w.heap.size≤w'.heap.size∧Stop c w':=by
 obtain⟨b,c,w',e,f,i,o,s,h1,h2,h3,_,r⟩:=h.walk k m;exact⟨b,c,w',e,f,i,h1,h2,h3,l _ _ _ (X6 w' o) r⟩
def iw.lone(h:iw P S F Q V a w sl T q)(b:w.heap.size≤U):iK P S Q U 0 V a w sl T q:=⟨h.run,h.h0,h.nx,LT.IK h.vj b⟩
def LT.vj{B:Nat}(h:LT Q U B 0 T):Past Q B T:=⟨h.clean,h.known,h.over,h.deaf,h.seen⟩
def iK.Cj(h:iK P S Q U 0 V a w sl T q)(b:∀l,Q l→∃a,l=.cell a∧a.block<w.heap.size∧mQ P S F a.block):iw P S F Q V a w sl T q:=⟨h.run,h.h0,h.nx,h.lt.vj,b⟩
end
end Go.ay
namespace Go.Proofs.YtcminalaicidiaaGreatDoor
open Go Go.ay Conc Conc.Lib RowKit
open Go.ConcR (KK WgAt stA smA DC0)
open Go.ConcR.Gen
section
variable{p:dm}{n0:Nat}{n R dD:Int}{cs:List Frame}
def Fa(p:dm)(n0:Nat)(n R dD:Int)(cs:List Frame)(g:Goroutine)(w:World):Prop:=∃T,(TS n0 n T∧T[14]? =some (.int .u32 R))∧Cf link p (ja p n0 dD) (xC T) cs g w
def O0(p:dm)(n0:Nat)(n R dD:Int)(cs:List Frame)(g:Goroutine)(w:World):Prop:=∃T,(TS n0 n T∧T[14]? =some (.int .u32 R))∧OV Tryz.prog (ja p n0 dD) (Ch T cs) g w
def Goes.xp{P:Program}{D:World→World→Array Event→Prop}{f i:Goroutine→World→Prop}(e:∀g w,f g w→i g w):∀{m:Nat} {g:Goroutine} {w:World},Goes P true AtRel D f m g w→Goes P true AtRel D i m g w
 |0,g,w,h=>fun b c=>e _ _ (h b c)|m+1,g,w,h=>by
  rcases h with h|⟨k,h⟩
  ·exact .inl fun b c=>e _ _ (h b c)
  ·refine .inr ⟨k,fun b c=>?_⟩;have:=h b c;cases j:stepG P true g b with
   |go g' w' l=>rw[j]at this;exact⟨this.1,Goes.xp e this.2⟩|_=>rw[j]at this;exact this.elim
def O1{P:Program}{D:World→World→Array Event→Prop}{i:Goroutine→World→Prop}(j:∀w w' k,D w w' k→AtRel w w'):∀{m:Nat} {g:Goroutine} {w e:World},AtRel e w→Goes P true AtRel D i m g w→Goes P true AtRel D (fun g w=>i g w∧AtRel e w) m g w
 |0,g,w,e,f,h=>fun c b=>⟨h c b,mP _ _ _ f b⟩|m+1,g,w,e,f,h=>by
  rcases h with h|⟨o,h⟩
  ·exact .inl fun c b=>⟨h c b,mP _ _ _ f b⟩
  ·refine .inr ⟨o,fun c b=>?_⟩;have:=h c b;cases l:stepG P true g c with
   |go g' w' k=>rw[l]at this;exact⟨this.1,O1 j (mP _ _ _ (mP _ _ _ f b) (j _ _ _ this.1)) this.2⟩|_=>rw[l]at this;exact this.elim
def X7{P:Program}{F:World→Prop}{r a:Goroutine}{m:Nat}{w:World}(h:Goes P true AtRel DC0 (fun g w=>g=r∧F w) m a w):Goes P true AtRel DC0 (fun g w'=>g=r∧AtRel w w') m a w:=by
 have:=O1 (fun w w' b (h:DC0 w w' b)=>by rw[h.1];exact AtRel.refl w) (AtRel.refl w) h;exact Goes.xp (fun g w' h=>⟨h.1.1,h.2⟩) this
def IT:∀w w',bR p w w'→ja p n0 dD w→ja p n0 dD w':=fun _ _ r h=>h.rely r
def X8(c:eL p)(g:Goroutine)(w:World)(h:Fa p n0 n R dD cs g w):fH Tryz.prog p (qF Tryz.prog p (O0 p n0 n R dD cs) (Fa p n0 n R dD cs)) g w:=by
 obtain⟨T,b,h⟩:=h;exact Way.mono (fun g w=>qF.mono (fun g w h=>⟨T,b,h⟩) fun g w h=>⟨T,b,h⟩) (XN (b₀:=base 33) (a₀:=⟨T,[]⟩) (ops₀:=mR) (i₀:=0) (rest₀:=[]) (k₀:=ki) zQ c IT g w h)
def X9(l:eL p)(B:(p.N:Int)=dD)(o:∀k:Nat,k<p.N→∀w,dw p k p.cG w→ay.Works Tryz.prog p k (born Tryz.prog (call44 n0 n R k p.Wg)) w):
 ∀r,r≤p.N→∀T w,r5 n0 n R p.Wg ((p.N-r:Nat):Int) T→ja p n0 dD w∧p.live w→oR Tryz.prog p (Fa p n0 n R dD cs) r (vm T cs) w:=by
 intro r;have C:=l.E0
 induction r with
 |zero=>
  intro _ T w f i;refine Way.trans bR.refl bR.aH (X3 (dD:=dD) f (by omega) i) fun g w ⟨⟨c,b,e⟩,j⟩=>?_;subst b;exact Way.mono (fun g w=>xw.mono fun g w h=>⟨c,⟨e.toTS,e.t14⟩,h⟩) (waitStartN (b₀:=base 33) (a₀:=⟨c,[]⟩) (ops₀:=mR) (i₀:=0) (rest₀:=[]) (k₀:=ki) zQ IT w j)
 |succ r s=>
  intro D T w f i;refine Way.trans bR.refl bR.aH (X2 (dD:=dD) f (by omega) i) fun g w ⟨⟨c,b,e⟩,j⟩=>?_;subst b;refine XJ (b₀:=base 33) (a₀:=⟨c,[]⟩) (ops₀:=nD) (i₀:=0) (rest₀:=[]) (k₀:=vn) zQ l IT (fun w h1 h2=>?_) w j;refine Way.mono (fun g w ⟨⟨t,E,u,v⟩,x⟩=>⟨t,_,_,u,rfl,fun y=>o _ (by omega) w y,?_⟩) (X4 e ⟨h1,h2⟩);refine oR.ahead (X5 v (by rw[IntKind.wrap_u32];omega) x) fun g w ⟨⟨z,b,m⟩,A⟩=>?_;subst b;have b:(((p.N-(r+1):Nat):Int)+1)=((p.N-r:Nat):Int):=by omega
  rw[b]at m;exact s (by omega) z w m A
end
end Go.Proofs.YtcminalaicidiaaGreatDoor
end
namespace Go.Proofs.YtcminalaicidiaaGreatDoor
section
open Go Go.ay Conc Conc.Lib RowKit
open Go.ConcR (KK WgAt stA smA DC0)
open Go.ConcR.Gen
def Ck(cn:Nat)(cY:Nat→Nat→Prop)(Y:Nat→Nat→Value)(k:Nat)(w:World):Prop:=∃vs t bx,w.heap[cn]? =some (.cells vs t bx)∧∀a,cY k a→vs[a]? =some (Y k a)
structure IU(p:dm)(Sh:Go.Loc→Prop)(cv:Machine)(N cn:Nat)(cY:Nat→Nat→Prop)(iJ:Nat→Prop)(kx:Nat→Nat)(Y:Nat→Nat→Value)(w1:World):Prop where
 ok:eL p
 ty:p.ty=link.tWg
 N:p.N=N
 bN:p.bN=cn
 rX:p.cY=cY
 xx:p.iJ=iJ
 kx:p.kx=kx
 pay:p.kO=Ck cn cY Y
 eD:∀c,c<w1.heap.size→c≠cn→(∀x:Addr,x.block=c→¬Sh (.cell x))→p.mM c
 ext:Ext w1 [lu] p.cG
 wg:p.Wg=w1.heap.size
def Ya{p:dm}{cn:Nat}{cY:Nat→Nat→Prop}{Y:Nat→Nat→Value}(e:p.bN=cn)(f:p.cY=cY)(k:Nat)(w w':World)(h:dw p k w w')(g:Ck cn cY Y k w):Ck cn cY Y k w':=by
 obtain⟨vs,t,bx,h1,h2⟩:=g;have a:=h.bN;rw[e,f]at a;rcases a with i|⟨us,j,o,r,b,l,u,m⟩
 ·exact⟨vs,t,bx,i.trans h1,h2⟩
 ·rw[h1]at b;cases b;exact⟨j,t,bx,l,fun c d=>(m c (.inl d)).trans (h2 c d)⟩
section
variable{cv:Machine}{Sh:Go.Loc→Prop}{Q:Array Goroutine}{w1:World}{sl:Option (Nat×Nat)}{T:Trace}{q:Nat→Nat}{n0 N cn:Nat}{n s:Int}{cs:List Frame}{cY:Nat→Nat→Prop}{iJ:Nat→Prop}{kx:Nat→Nat}{Y:Nat→Nat→Value}{P:Array Value}
def IV{w:World}(h:Ext w1 [lu] w):WgAt link.tWg w1.heap.size w 0 0:=by
 unfold WgAt Go.ConcR.wgBlock;exact h.at 0 rfl
structure zV(cn N:Nat)(cY:Nat→Nat→Prop)(Y:Nat→Nat→Value)(w1 w:World):Prop where
 os:w.os=w1.os
 tape:w.tape=w1.tape
 output:w.output=w1.output
 size:w1.heap.size≤w.heap.size
 old:∀c,c<w1.heap.size→c≠cn→w.heap[c]? =w1.heap[c]?
 bN:kP cn (fun o=>∀k,k<N→¬cY k o) w1 w
 pay:∀k,k<N→Ck cn cY Y k w
def zV.at{w w':World}(h:zV cn N cY Y w1 w)(r:AtRel w w'):zV cn N cY Y w1 w':=by
 obtain⟨d,rfl⟩:=r;exact⟨h.os,h.tape,h.output,h.size,h.old,h.bN,h.pay⟩
def Yb(R:0<N)(S:N<2147483648)(U:∀k z r,cY k r→cY z r→k=z)(V:∀k r,cY k r→¬iJ r)(W:∀k,cY k (kx k)∨iJ (kx k))
 (A:iw Tryz.prog cv 33 Sh Q (r4 P cs) w1 sl T q) (X:TS n0 n P) (Z:P[14]? =some (.int .u32 s)) (aa:s<4) (H:w1.heap[n0+3]? =some (.cells #[.int .u32 N] 43)) (ab:∀e:Addr,e.block=n0+3→¬Sh (.cell e)) (ad:n0+3≠cn)
 (ae:cn<w1.heap.size) (af:∀e:Addr,e.block=cn→¬Sh (.cell e))
 (ag:∀p:dm,IU p Sh cv N cn cY iJ kx Y w1→∀k:Nat,k<N→∀w,dw p k p.cG w→ay.Works Tryz.prog p k (born Tryz.prog (call44 n0 n s k p.Wg)) w):
 ∃I ah t w' ai aj ak,iw Tryz.prog cv 33 I ah (Ch t cs) w' ai aj ak∧(TS n0 n t∧t[14]? =some (.int .u32 s))∧zV cn N cY Y w1 w'∧∀e:Addr,e.block<w1.heap.size→I (.cell e)→Sh (.cell e):=by
 obtain⟨B,aP,f,aQ,aR,aS,i,aT,h1,_,aU,al,⟨C,rfl,am,an⟩,v⟩:=(A.lone (aV _)).walk (fun g w h=>by obtain⟨⟨_,rfl,_⟩,_⟩:=h;rfl) (XY X Z aa w1);have J:f.heap.size=w1.heap.size:=by obtain⟨d,j⟩:=v;have:=iX (fun w:World=>w.heap.size) j;exact this
 have ao:=h1.Cj (F:=33) (fun l D=>let⟨a,j,e,E⟩:=A.oS l D;⟨a,j,by omega,E⟩);have m:Ext w1 [lu] ((f.at i).alloc lu):=((Ext.refl w1).rely v).alloc lu;have aW:((f.at i).alloc lu).heap.size=w1.heap.size+1:=m.size;have ap:∀e:Addr,Sh (.cell e)→e.block<w1.heap.size:=fun e K=>by obtain⟨a,j,h,_⟩:=A.oS _ K;cases j;exact h
 let p:dm:={ty:=link.tWg,Wg:=w1.heap.size,Sh:=Sh,aZ:=B.size,N:=N,bN:=cn,ety:=0,n:=0,mO:=fun k c=>w1.heap.size<c∧zP Tryz.prog cv (B.size+k) c,mM:=fun c=>c<w1.heap.size∧c≠cn∧∀e:Addr,e.block=c→¬Sh (.cell e),cY:=cY,iJ:=iJ,kx:=kx,kO:=Ck cn cY Y,cG:=(f.at i).alloc lu};have aq:0<B.size:=(dX.1 h1.h0).1;have x:eL p:=⟨fun k z b h ar=>by have:=XB h.2 ar.2;omega,fun k b h=>by show((f.at i).alloc lu).heap.size≤b;have:=h.1;omega,fun k a h e j u=>by have:=ap e u;have:=h.1;omega,
  fun b h=>⟨by show b<((f.at i).alloc lu).heap.size;have:=h.1;omega,by have:=h.1;show b≠w1.heap.size;omega,h.2.1,h.2.2⟩,by show w1.heap.size<((f.at i).alloc lu).heap.size;omega,
  ⟨by show cn<((f.at i).alloc lu).heap.size;omega,by show cn≠w1.heap.size;omega,af⟩,U,V,W,aq,S,fun k w w' h au=>Ya rfl rfl k w w' h au⟩
 have av:IU p Sh cv N cn cY iJ kx Y w1:=⟨x,rfl,rfl,rfl,rfl,rfl,rfl,rfl,fun c h1 h2 h3=>⟨h1,h2,h3⟩,m,rfl⟩;have aw:stepG Tryz.prog true (zR C cs) (f.at i)=.go (Ci C p.Wg cs) p.cG #[]:=by
  have:=X0 C cs (f.at i)
  rwa[show(f.at i).heap.size=w1.heap.size from J]at this
 have L:n0+3<w1.heap.size:=(dX.1 H).1;have ax:ja p n0 N p.cG∧p.live p.cG:=⟨⟨⟨L,ad,ab⟩,(m.old L).trans H⟩,⟨0,0,IV m⟩⟩;obtain⟨aX,aY,y,a0,a1,a2,h3,⟨M,az,aA,cR⟩,aB,o⟩:=ao.crowd (p:=p) (Next:=O0 p n0 n s N cs) (Anch:=Fa p n0 n s N cs) rfl al aw x rfl J.symm (by show f.heap.size≤((f.at i).alloc lu).heap.size;omega) (IV m) R
  (oR.ahead (X1 (dD:=N) am an ax) fun g w ⟨⟨t,j,aC⟩,aD⟩=>by
   subst j;exact X9 x rfl (fun k O w aE=>ag p av k O w aE) N (aV _) t w (by rw[show((p.N-N:Nat):Int)=0 by show((N-N:Nat):Int)=0;simp];exact aC) aD)
  (fun k c O h1 h2=>⟨by have:((f.at i).alloc lu).heap.size≤c:=h1;omega,h2⟩) (fun g w h=>by obtain⟨_,_,h⟩:=h;exact XL h) (fun g w h=>X8 x g w h)
 have aF:zV cn N cY Y w1 y:=⟨o.os.trans m.os,o.tape.trans m.tape,o.output.trans m.output,by have:((f.at i).alloc lu).heap.size≤y.heap.size:=o.size;omega,
  fun c aG aH=>(o.jN c (by show c<((f.at i).alloc lu).heap.size;omega) aH (by show c≠w1.heap.size;omega)).trans (m.old aG),kP.trans (.inl (m.old ae)) o.bN,aB⟩
 obtain⟨aI,a3,aJ,aK,aL,aM,h4,_,a4,rfl,aN⟩:=(h3.lone (aV _)).to (Stop:=fun g w=>g=Ch M cs∧AtRel y w) (fun g w h=>by rw[h.1];rfl) (fun g w a5 v h=>⟨h.1,mP _ _ _ h.2 v⟩)
  (vk (Sh:=fun l=>p.Sh l∨pR p.Wg l) (Wg:=y.heap.size) (n:=aA) (X7 cR))
 refine⟨_,aI,M,aJ,aK,aL,aM,h4.Cj (fun l D=>let⟨a,j,e,E⟩:=h3.oS l D;⟨a,j,by omega,E⟩),az,aF.at aN,fun e K u=>?_⟩;rcases u with u|⟨b,j,aO⟩
 ·exact u
 ·cases j;have:e.block=w1.heap.size:=aO;omega
end
end
end Go.Proofs.YtcminalaicidiaaGreatDoor
namespace Go.ay
section
variable{v:Value}{xs:List af}{vs:List Value}{x:af}{c:Nat}{w:World}{o:N}{w':World}{b i:Nat}{l:N}{g:Nat}{P Q:World}{H:List ah}
structure Loc where
 c:Nat
 base:Nat
 room:Nat
abbrev aE:=Nat→Option Loc
def aE.le(β d:aE):Prop:=∀b a,β b=some a→d b=some a
def aE.le_refl(β:aE):aE.le β β:=fun _ _ h=>h
def aE.le_trans{a b c:aE}(h:aE.le a b)(k:aE.le b c):aE.le a c:=fun x d e=>k x d (h x d e)
def at'(c o:Nat):Addr:=⟨c,o,none⟩
class aR where
 row:Nat→Nat×Nat
def gz [aR](k o:Nat):Addr:=if k%2=0 then at' (k/2) o else at' (aR.row (k/2)).1 ((aR.row (k/2)).2+o)
def gZ [aR](k:Nat):Nat:=if k%2=0 then k/2 else(aR.row (k/2)).1
def r6 [aR](k:Nat):∃b,∀o,gz k o=at' (gZ k) (b+o):=by
 unfold gz gZ;split
 ·exact⟨0,fun o=>by rw[cM]⟩
 ·exact⟨_,fun o=>rfl⟩
def IW [aR](g o:Nat):gz (2*g) o=at' g o:=by
 unfold gz;rw[ax (by omega),show 2*g/2=g by omega]
def Yc [aR](g:Nat):gZ (2*g)=g:=by
 unfold gZ;rw[ax (by omega),show 2*g/2=g by omega]
variable [aR][aG]
inductive aC(β:aE):af→Value→Prop
 |aa (v:Value):aC β (.atom .aa) v|bool (b:B):aC β (.atom (.bool b)) (.bool b.v)|str (s:ByteArray):aC β (.atom (.str s)) (.string s)|mB:aC β (.atom .mB) (.pointer none)|cD:aC β (.atom .cD) (.slice none 0 0)|fD:aC β (.atom .fD) .nilIface|mC:aC β (.atom .mC) .nilFunc|exact(v:Value):aC β (.atom (.exact v)) v|num (n:bk):aC β (.num n) n.val|ptr (b:Nat) (o:N) (L:Loc) (h:β b=some L):aC β (.ref (.ptr b o)) (.pointer (some (at' L.c (L.base+o.v))))|eC (g:Nat) (o:N):aC β (.ref (.eC g o)) (.pointer (some (gz g o.v)))|gs (g:Nat) (o l:N) (c5:Nat) (h:l.v≤c5):aC β (.ref (.gs g o l)) (.slice (some (gz g o.v)) l.v c5)|sm (b:Nat) (l:N) (s:Nat) (a:Option Addr) (c5:Nat) (h1:l.v≤c5) (h3:c5=0∨∃L,β b=some L∧a=some (at' L.c L.base)∧c5*s≤L.room):aC β (.ref (.sm b l s)) (.slice a l.v c5)
 |sl (b:Nat) (o l:N) (cap:Option N) (a:Option Addr) (c5:Nat) (h1:l.v≤c5) (h2:∀C,cap=some C→C.v=c5)
  (h3:c5=0∨∃L,β b=some L∧a=some (at' L.c (L.base+o.v))∧o.v+c5≤L.room):aC β (.ref (.sl b o l cap)) (.slice a l.v c5)
 |agg (xs:List af) (vs:List Value) (Om:xs.length=vs.length) (h:∀(i:Nat) x v,xs[i]? =some x→vs[i]? =some v→aC β x v):aC β (.agg xs) (.agg ⟨vs⟩)|bA (xs:List af) (vs:List Value) (Om:xs.length=vs.length) (h:∀(i:Nat) x v,xs[i]? =some x→vs[i]? =some v→aC β x v):aC β (.obj .bA xs) (.tuple ⟨vs⟩)|iq (t:Nat) (x:af) (v:Value) (h:aC β x v):aC β (.obj (.iq t) [x]) (.iface t v)
 |fn (f:Fn) (n:Nat) (xs:List af) (first captured:List Value) (xo:first.length=n) (Om:xs.length=(first++captured).length)
  (h:∀(i:Nat) x v,xs[i]? =some x→(first++captured)[i]? =some v→aC β x v):aC β (.obj (.fn f n) xs) (.func f ⟨first⟩ ⟨captured⟩)
def aK(β:aE)(xs:List af)(vs:List Value):Prop:=xs.length=vs.length∧∀(i:Nat) x v,xs[i]? =some x→vs[i]? =some v→aC β x v
def aK.nil(β:aE):aK β [] []:=⟨rfl,fun i x v h=>by simp at h⟩
def aK.cons{β:aE}(h:aC β x v)(k:aK β xs vs):aK β (x::xs) (v::vs):=by
 refine⟨by simp[k.1],fun i e u a d=>?_⟩;cases i with
 |zero=>simp at a d;subst a d;exact h|succ i=>simp at a d;exact k.2 i e u a d
def aK.head{β:aE}(h:aK β (x::xs) (v::vs)):aC β x v:=h.2 0 x v rfl rfl
def aK.tail{β:aE}(h:aK β (x::xs) (v::vs)):aK β xs vs:=
 ⟨by simpa using h.1,fun i a u d e=>h.2 (i+1) a u (by simpa using d) (by simpa using e)⟩
def aK.cons_inv{β:aE}(h:aK β (x::xs) vs):∃v a,vs=v::a∧aC β x v∧aK β xs a:=by
 cases vs with
 |nil=>simp[aK]at h|cons v a=>exact⟨v,a,rfl,h.head,h.tail⟩
def aK.r7{β:aE}(h:aK β [] vs):vs=[]:=by
 have:=h.1;simp at this;exact Bh this.symm
def aK.append{β:aE}{a:List af}{us:List Value}(h:aK β xs vs)(k:aK β a us):aK β (xs++a) (vs++us):=by
 induction xs generalizing vs with
 |nil=>rw[h.r7];exact k|cons x xs d=>
  obtain⟨v,e,rfl,h1,h2⟩:=h.cons_inv;exact aK.cons h1 (d h2)
def aK.get{β:aE}(h:aK β xs vs)(a:xs[i]? =some x):∃v,vs[i]? =some v∧aC β x v:=by
 have hi:i<xs.length:=by
  rcases cu i xs.length with h|h
  ·exact h
  ·simp[dz h]at a
 have d:i<vs.length:=h.1▸hi;exact⟨vs[i],by simp[d],h.2 i x _ a (by simp[d])⟩
def aK.drop{β:aE}(h:aK β xs vs)(n:Nat):aK β (xs.drop n) (vs.drop n):=
 ⟨by simp[h.1],fun i x v a d=>h.2 (n+i) x v (by simpa using a) (by simpa using d)⟩
def aK.take{β:aE}(h:aK β xs vs)(n:Nat):aK β (xs.take n) (vs.take n):=by
 refine⟨by simp[h.1],fun i x v a d=>?_⟩;simp only[lM]at a d;split at a<;>simp_all;exact h.2 i x v a d
def aK.set{β:aE}(h:aK β xs vs)(j:aC β x v)(n:Nat):aK β (xs.set n x) (vs.set n v):=by
 refine⟨by simp[h.1],fun i f u a d=>?_⟩;simp only[wW]at a d;have:=h.1;split at a
 ·rename_i e;simp only[e,g6]at d;split at a<;>simp_all
 ·rename_i e;simp only[e,ee]at d;exact h.2 i f u a d
def aK.replicate{β:aE}(h:aK β xs vs)(n:Nat):aK β (List.replicate n xs).flatten (List.replicate n vs).flatten:=by
 induction n with
 |zero=>exact aK.nil β|succ n a=>simp only[anW,V3];exact h.append a
def aC.mono{β r:aE}(m:aE.le β r)(h:aC β x v):aC r x v:=by
 induction h with
 |aa v=>exact .aa v|bool b=>exact .bool b|str p=>exact .str p|mB=>exact .mB|cD=>exact .cD|fD=>exact .fD|mC=>exact .mC|exact v=>exact .exact v|num n=>exact .num n|ptr b o d h=>exact .ptr b o d (m b d h)|eC g o=>exact .eC g o|gs g o l j h=>exact .gs g o l j h|sm b l p a j h1 h3=>
  refine .sm b l p a j h1 ?_;rcases h3 with h|⟨d,h,q⟩
  ·exact .inl h
  ·exact .inr ⟨d,m b d h,q⟩
 |sl b o l s a j h1 h2 h3=>
  refine .sl b o l s a j h1 h2 ?_;rcases h3 with h|⟨d,h,q⟩
  ·exact .inl h
  ·exact .inr ⟨d,m b d h,q⟩
 |agg xs vs k h e=>exact .agg xs vs k e|bA xs vs k h e=>exact .bA xs vs k e|iq t x v h e=>exact .iq t x v e|fn f n xs first captured u k h e=>exact .fn f n xs first captured u k e
def aK.mono{β a:aE}(d:aE.le β a)(h:aK β xs vs):aK a xs vs:=⟨h.1,fun i x v e f=>(h.2 i x v e f).mono d⟩
def aC.oU{β:aE}(h:b5 x v):aC β x v:=by cases h<;>first|exact .num _|exact .bool _
def aC.zW{β:aE}(h:aK β xs vs):aC β (.agg xs) (.agg ⟨vs⟩):=.agg xs vs h.1 h.2
def aC.IX{β:aE}(h:aK β xs vs):aC β (.obj .bA xs) (.tuple ⟨vs⟩):=.bA xs vs h.1 h.2
def aC.xD{β:aE}(h:aC β (.agg xs) v):∃vs,v=.agg ⟨vs⟩∧aK β xs vs:=by
 cases h with|agg _ vs a h=>exact⟨vs,rfl,a,h⟩
def aC.Yd{β:aE}(h:aC β (.obj .bA xs) v):∃vs,v=.tuple ⟨vs⟩∧aK β xs vs:=by
 cases h with|bA _ vs a h=>exact⟨vs,rfl,a,h⟩
def aC.num_inv{β:aE}{n:bk}(h:aC β (.num n) v):v=n.val:=by cases h;rfl
def aC.tC{β:aE}{b:B}(h:aC β (.atom (.bool b)) v):v=.bool b.v:=by cases h;rfl
def aC.qK{β:aE}(h:aC β (.ref (.ptr b o)) v):∃a,β b=some a∧v=.pointer (some (at' a.c (a.base+o.v))):=by
 cases h with|ptr _ _ a h=>exact⟨a,h,rfl⟩
def aC.O2{β:aE}(h:aC β (.ref (.gs g o l)) v):∃a,v=.slice (some (gz g o.v)) l.v a∧l.v≤a:=by cases h;exact⟨_,rfl,by assumption⟩
def aC.Cl{β:aE}{f:Nat}(h:aC β (.ref (.sm b l f)) v):
 ∃a d,v=.slice a l.v d∧l.v≤d∧(d=0∨∃e,β b=some e∧a=some (at' e.c e.base)∧d*f≤e.room):=by
 cases h with|sm _ _ _ a d h1 h3=>exact⟨a,d,rfl,h1,h3⟩
def aC.Cm{β:aE}(h:aC β (.ref (.eC g o)) v):v=.pointer (some (gz g o.v)):=by cases h;rfl
def aC.pW{β:aE}{f:Option N}(h:aC β (.ref (.sl b o l f)) v):
 ∃a d,v=.slice a l.v d∧l.v≤d∧(∀C,f=some C→C.v=d)∧(d=0∨∃e,β b=some e∧a=some (at' e.c (e.base+o.v))∧o.v+d≤e.room):=by
 cases h with|sl _ _ _ _ a d h1 h2 h3=>exact⟨a,d,rfl,h1,h2,h3⟩
def IY(β:aE):∀v:Value,aC β (w7 v) v:=by
 intro v
 induction v using Value.rec (motive_2:=fun a=>aK β (w7.Bw a.toList) a.toList) (motive_3:=fun l=>aK β (w7.Bw l) l)with
 |bool b=>exact .bool (.c b)|int k n=>exact .num (.int k (.c n))|string e=>exact .str e|pointer a=>cases a<;>first|exact .mB|exact .aa _
 |slice a l c=>
  cases a with
  |some a=>exact .aa _|none=>
   cases l with
   |succ l=>exact .aa _|zero=>
    cases c with
    |succ c=>exact .aa _|zero=>exact .cD
 |nilIface=>exact .fD|nilFunc=>exact .mC|agg a d=>cases a;exact aC.zW d
 |tuple a d=>cases a;exact aC.IX d
 |mk l d=>exact d|nil=>exact aK.nil β|cons x l f h=>exact aK.cons f h|_=>exact .aa _
def Data.at(d:Data)(i:Nat):Option af:=
 match d with
 |.gen l=>l[i]?|.aj l=>(l.l[i]?).map .bP|.eX l=>(l.l[i]?).map .aF|.bw l=>(l.l[i]?).map .av|.spot n a x=>((List.replicate n (.atom .aa)).set a x)[i]?|.e9 l t=>(l.map af.exact++t)[i]?|.lim f l=>if f i false=true then(l.l[i]?).map .av else none
def Data.list(d:Data):List af:=
 match d with
 |.gen l=>l|.aj l=>l.l.map .bP|.eX l=>l.l.map .aF|.bw l=>l.l.map .av|.spot n a x=>(List.replicate n (.atom .aa)).set a x|.e9 l t=>l.map af.exact++t|.lim _ l=>l.l.map .av
def Data.full(d:Data):Prop:=∀f l,d≠.lim f l
def Data.qL{d:Data}(a:d.full)(i:Nat):d.list[i]? =d.at i:=by cases d<;>first|(simp[Data.list,Data.at];done)|exact absurd rfl (a _ _)
def Data.Ye{d:Data}(h:d.at i=some x):d.list[i]? =some x:=by
 cases d with
 |lim f l=>
  simp only[Data.at]at h;split at h
  ·simpa[Data.list]using h
  ·cases h
 |_=>simpa[Data.list,Data.at]using h
def Data.jx(d:Data):d.list.length=d.len:=by cases d<;>simp[Data.list,Data.len,U.h]
def IZ{n d:Nat}{a:af}(h:((List.replicate n (af.atom .aa)).set d x)[i]? =some a):a=.atom .aa∨(i=d∧a=x):=by
 rw[wW]at h;split at h
 ·rename_i e;split at h
  ·injection h with h;exact .inr ⟨e.symm,h.symm⟩
  ·cases h
 ·rw[mz]at h;split at h
  ·injection h with h;exact .inl h.symm
  ·cases h
def Mode.alive(m:Mode):Prop:=m≠.bn
def jb(β:aE)(d:Data)(a:Loc)(w:World):Prop:=
 a.c<w.heap.size∧d.len≤a.room∧∀(i:Nat) x,d.at i=some x→∃v,w.cell? (at' a.c (a.base+i))=some v∧aC β x v∧gh (at' a.c (a.base+i)) false
def I0(bx:Nat×Nat)(n:Nat):Prop:=bx=(0,0)∨bx=(n,n+1)
def fI(d:Data)(c:Nat):Prop:=
 match d with
 |.lim f _=>aG.mine c∧f=aG.lim|_=>oM c
def fI.mine{d:Data}(h:fI d c):aG.mine c:=by cases d<;>exact h.1
def fI.tD{d:Data}(h:fI d c)(a:d.full):oM c:=by cases d<;>first|exact h|exact absurd rfl (a _ _)
def fI.of{d:Data}(h:oM c)(a:d.full):fI d c:=by cases d<;>first|exact h|exact absurd rfl (a _ _)
def lU(l:List af):(Data.gen l).full:=fun _ _ h=>by cases h
def r8(β:aE)(d:Data)(a:Loc)(w:World):Prop:=
 a.base=0∧fI d a.c∧∃(vs:List Value) (t:TypeId) (bx:Nat×Nat),w.heap[a.c]? =some (.cells ⟨vs⟩ t bx)∧I0 bx vs.length∧vs.length=a.room∧d.len≤a.room∧aK β d.list (vs.take d.len)
def hH(β:aE)(k:ah)(a:Loc)(w:World):Prop:=
 match k.mode with
 |.bn=>True|.ro=>jb β k.data a w|.own=>r8 β k.data a w
structure aM(G:Nat→Option (List af))(β:aE)(H:List ah)(w:World):Prop where
 blk:∀(b:Nat) k,H[b]? =some k→k.mode.alive→(∃L,β b=some L∧hH β k L w)∨(k.data.len=0∧β b=none)
 dL:∀(b b':Nat) k oC L O3,b≠b'→H[b]? =some k→H[b']? =some oC→k.mode=.own→oC.mode.alive→β b=some L→β b'=some O3→L.c≠O3.c
 fl:∀b L,β b=some L→b<H.length
 dA:∀g l,G g=some l→gZ g<w.heap.size∧∀(i:Nat) x,l[i]? =some x→∃v,w.cell? (gz g i)=some v∧aC (fun _=>none) x v∧gh (gz g i) false
 apart:∀(b:Nat) k L,H[b]? =some k→k.mode=.own→β b=some L→∀g l,G g=some l→gZ g≠L.c
def Own(β:aE)(H:List ah)(c:Nat):Prop:=∃(b:Nat) (k:ah) (a:Loc),H[b]? =some k∧k.mode=.own∧β b=some a∧a.c=c
def bL(c:Nat)(w w':World):Prop:=(aG.mine c→w'.heap[c]? =w.heap[c]?)∧∀o,aG.rd c o→w'.cell? (at' c o)=w.cell? (at' c o)
def bL.of(h:w'.heap[c]? =w.heap[c]?):bL c w w':=⟨fun _=>h,fun o _=>by unfold World.cell? at';simp only;rw[h]⟩
def bL.refl(c:Nat)(w:World):bL c w w:=bL.of rfl
def bL.trans(h:bL c w w')(k:bL c w' P):bL c w P:=⟨fun a=>(k.1 a).trans (h.1 a),fun o d=>(k.2 o d).trans (h.2 o d)⟩
def eK.O4(h:eK w Q)(a:c<w.heap.size):bL c w Q:=⟨h.mine c a,fun o d=>h.rd c o a d⟩
def bL.cell{o:Nat}(h:bL c w w')(a:gh (at' c o) false)(d:w.cell? (at' c o)=some v):w'.cell? (at' c o)=some v:=by
 rcases a.2 with a|⟨_,a,_⟩
 ·have:=h.1 a.1;unfold World.cell? at' at d⊢;simp only at d⊢;rw[this];exact d
 ·rw[h.2 o a];exact d
structure bJ(β:aE)(H:List ah)(w:World)(β':aE)(fJ:List ah)(w':World):Prop where
 le:aE.le β β'
 len:H.length≤fJ.length
 os:w'.os=w.os
 tape:w'.tape=w.tape
 output:w'.output=w.output
 size:w.heap.size≤w'.heap.size
 kept:∀c,c<w.heap.size→¬Own β H c→bL c w w'
 own:∀c,c<w.heap.size→Own β' fJ c→Own β H c
 old:∀b,b<H.length→β' b=β b
def bJ.refl(β:aE)(H:List ah)(w:World):bJ β H w β H w:=⟨aE.le_refl β,aV _,rfl,rfl,rfl,aV _,fun c _ _=>bL.refl c _,fun _ _ h=>h,fun _ _=>rfl⟩
def bJ.trans{β e f:aE}{j m:List ah}(h:bJ β H w e j w')(k:bJ e j w' f m P):bJ β H w f m P where
 le:=aE.le_trans h.le k.le
 len:=ga h.len k.len
 os:=k.os.trans h.os
 tape:=k.tape.trans h.tape
 output:=k.output.trans h.output
 size:=ga h.size k.size
 kept c a n:=(h.kept c a n).trans (k.kept c (dN a h.size) (fun d=>n (h.own c a d)))
 own c a d:=h.own c a (k.own c (dN a h.size) d)
 old b p:=(k.old b (dN p h.len)).trans (h.old b p)
def bJ.drew(β:aE)(H:List ah)(w:World):bJ β H w β H w.drew:=⟨aE.le_refl β,aV _,rfl,rfl,rfl,aV _,fun _ _ _=>bL.of rfl,fun _ _ h=>h,fun _ _=>rfl⟩
def eK.pX(h:eK w Q)(β:aE)(H:List ah):bJ β H w β H Q:=⟨aE.le_refl β,aV _,h.os,h.tape,h.output,h.size,fun c a _=>h.O4 a,fun _ _ h=>h,fun _ _=>rfl⟩
def aM.drew{G:Nat→Option (List af)}{β:aE}(h:aM G β H w):aM G β H w.drew:=⟨h.blk,h.dL,h.fl,h.dA,h.apart⟩
def cg{a:Type}:∀(n:Nat) (l:List a),aW n l=l[n]?|0,[]=>rfl|n+1,[]=>rfl|0,x::r=>rfl|n+1,x::r=>by simp[aW,cg n r]
def iN{a:Type}(v:a):∀(n:Nat) (l:List a),fc v n l=l.set n v|0,[]=>rfl|n+1,[]=>rfl|0,x::r=>rfl|n+1,x::r=>by simp[fc,iN v n r]
def Fb{d:Type}(vs:List d):∀(n:Nat) (l r:List d),nk vs n l=some r→n+vs.length≤l.length∧r=over l n vs
 |0,l,r,h=>by
  simp only[nk]at h;cases e:Nat.ble vs.length l.length<;>simp[e]at h;have:vs.length≤l.length:=by simpa using e
  exact⟨by omega,by subst h;simp[over]⟩
 |n+1,[],r,h=>by simp[nk]at h|n+1,x::l,r,h=>by
  simp only[nk]at h;cases a:nk vs n l with
  |none=>simp[a]at h|some f=>
   simp[a]at h;obtain⟨h1,h2⟩:=Fb vs n l f a;subst h h2;refine⟨by simp;omega,?_⟩;simp[over,Nat.add_right_comm]
def Cn{d:Type}(n:Nat):∀(o:Nat) (l r:List d),td n o l=some r→o+n≤l.length∧r=(l.drop o).take n
 |0,l,r,h=>by
  simp only[td]at h;cases a:Nat.ble n l.length<;>simp[a]at h;have:n≤l.length:=by simpa using a
  exact⟨by omega,by subst h;simp⟩
 |o+1,[],r,h=>by simp[td]at h|o+1,x::l,r,h=>by
  simp only[td]at h;obtain⟨h1,h2⟩:=Cn n o l r h;exact⟨by simp;omega,by simpa using h2⟩
end
section
variable [aR][aG]
variable{d:Data}{vs:List Value}{m:uM}{l:List af}{P:Data}{i:Nat}{T V:Type}{f:T→Option V}{r:List V}{v:U 8}{n:Nat}{Q:N}{S R:ai}
section
variable{β:aE}
def I1{b:List (BitVec 8)}(h:cU af.fE l=some b)(e:aK β l vs):aK β (b.map .bP) vs:=by
 induction l generalizing b vs with
 |nil=>simp[cU]at h;subst h;exact e|cons g l k=>
  simp only[cU]at h;cases a:af.fE g with
  |none=>simp[a]at h|some o=>
   cases c:cU af.fE l with
   |none=>simp[a,c]at h|some p=>
    simp[a,c]at h;subst h;obtain⟨v,q,rfl,h1,h2⟩:=e.cons_inv;cases g<;>simp only[af.fE,reduceCtorEq]at a;have j:=h1.num_inv;rw[bk.rV a]at j;subst j;exact aK.cons (aC.oU (.bP o)) (k c h2)
def O5{b:List (BitVec 32)}(h:cU af.iu l=some b)(e:aK β l vs):aK β (b.map .aF) vs:=by
 induction l generalizing b vs with
 |nil=>simp[cU]at h;subst h;exact e|cons g l k=>
  simp only[cU]at h;cases a:af.iu g with
  |none=>simp[a]at h|some o=>
   cases c:cU af.iu l with
   |none=>simp[a,c]at h|some p=>
    simp[a,c]at h;subst h;obtain⟨v,q,rfl,h1,h2⟩:=e.cons_inv;cases g<;>simp only[af.iu,reduceCtorEq]at a;have j:=h1.num_inv;rw[bk.u5 a]at j;subst j;exact aK.cons (aC.oU (.aF o)) (k c h2)
def O6{b:List (BitVec 64)}(h:cU af.fF l=some b)(e:aK β l vs):aK β (b.map .av) vs:=by
 induction l generalizing b vs with
 |nil=>simp[cU]at h;subst h;exact e|cons g l k=>
  simp only[cU]at h;cases a:af.fF g with
  |none=>simp[a]at h|some o=>
   cases c:cU af.fF l with
   |none=>simp[a,c]at h|some p=>
    simp[a,c]at h;subst h;obtain⟨v,q,rfl,h1,h2⟩:=e.cons_inv;cases g<;>simp only[af.fF,reduceCtorEq]at a;have j:=h1.num_inv;rw[bk.oP a]at j;subst j;exact aK.cons (aC.oU (.av o)) (k c h2)
def tE{l:List T}(h:cU f l=some r):r.length=l.length:=by
 induction l generalizing r with
 |nil=>simp[cU]at h;subst h;rfl|cons a l b=>
  simp only[cU]at h;cases h1:f a with
  |none=>simp[h1]at h|some c=>
   cases h2:cU f l with
   |none=>simp[h1,h2]at h|some e=>simp[h1,h2]at h;subst h;simp[b h2]
def Co{l:U 8}(h:d.j5=some l):l.n=d.len:=by
 cases d<;>simp only[Data.j5,bT,aD,reduceCtorEq]at h
 ·obtain⟨a,b,rfl⟩:=h;exact tE b
 ·subst h;rfl
def Fc{l:U 32}(h:d.oE=some l):l.n=d.len:=by
 cases d<;>simp only[Data.oE,bT,aD,reduceCtorEq]at h
 ·obtain⟨a,b,rfl⟩:=h;exact tE b
 ·subst h;rfl
def Fe{l:U 64}(h:d.oF=some l):l.n=d.len:=by
 cases d<;>simp only[Data.oF,bT,aD,reduceCtorEq]at h
 ·obtain⟨a,b,rfl⟩:=h;exact tE b
 ·subst h;rfl
def Cp{b:U 8}(h:d.j5=some b)(c:aK β d.list vs):aK β (b.l.map .bP) vs:=by
 cases d<;>simp only[Data.j5,bT,aD,reduceCtorEq]at h
 ·obtain⟨a,e,rfl⟩:=h;exact I1 e c
 ·subst h;exact c
def Ff{b:U 32}(h:d.oE=some b)(c:aK β d.list vs):aK β (b.l.map .aF) vs:=by
 cases d<;>simp only[Data.oE,bT,aD,reduceCtorEq]at h
 ·obtain⟨a,e,rfl⟩:=h;exact O5 e c
 ·subst h;exact c
def Fg{b:U 64}(h:d.oF=some b)(c:aK β d.list vs):aK β (b.l.map .av) vs:=by
 cases d<;>simp only[Data.oF,bT,aD,reduceCtorEq]at h
 ·obtain⟨a,e,rfl⟩:=h;exact O6 e c
 ·subst h;exact c
end
def I2(h:d.words=some P):(∃v,d.j5=some v∧P=.aj v)∨(∃v,d.oE=some v∧P=.eX v)∨(∃v,d.oF=some v∧P=.bw v):=by
 unfold Data.words at h;split at h
 ·split at h
  ·rename_i v a;injection h with h;exact .inl ⟨v,a,h.symm⟩
  ·split at h
   ·rename_i v a;injection h with h;exact .inr (.inl ⟨v,a,h.symm⟩)
   ·split at h
    ·rename_i v a;injection h with h;exact .inr (.inr ⟨v,a,h.symm⟩)
    ·cases h
 ·cases h
def zX(h:d.words=some P):P.len=d.len:=by
 rcases I2 h with⟨v,k,rfl⟩|⟨v,k,rfl⟩|⟨v,k,rfl⟩
 ·exact Co k
 ·exact Fc k
 ·exact Fe k
def O7(h:d.words=some P){β:aE}(a:aK β d.list vs):aK β P.list vs:=by
 rcases I2 h with⟨v,k,rfl⟩|⟨v,k,rfl⟩|⟨v,k,rfl⟩
 ·exact Cp k a
 ·exact Ff k a
 ·exact Fg k a
def Fh{l:List T}(h:cU f l=some r){c:V}(b:r[i]? =some c):∃a,l[i]? =some a∧f a=some c:=by
 induction l generalizing r i with
 |nil=>simp[cU]at h;subst h;simp at b|cons a l e=>
  simp only[cU]at h;cases h1:f a with
  |none=>simp[h1]at h|some z=>
   cases h2:cU f l with
   |none=>simp[h1,h2]at h|some g=>
    simp[h1,h2]at h;subst h;cases i with
    |zero=>simp at b;subst b;exact⟨a,rfl,h1⟩|succ i=>simpa using e h2 (by simpa using b)
def I3(h:d.words=some P){o:af}(b:P.at i=some o):∃a,d.at i=some a∧∀(β:aE) v,aC β a v→aC β o v:=by
 cases d with
 |gen l=>
  rcases I2 h with⟨u,k,rfl⟩|⟨u,k,rfl⟩|⟨u,k,rfl⟩
  ·simp only[Data.j5,bT]at k;obtain⟨r,c,rfl⟩:=k;simp only[Data.at,U.of,bT]at b;obtain⟨e,g,rfl⟩:=b;obtain⟨a,h1,h2⟩:=Fh c g;refine⟨a,h1,fun β v j=>?_⟩;cases a<;>simp only[af.fE,reduceCtorEq]at h2;rw[j.num_inv,bk.rV h2];exact .num (.bP e)
  ·simp only[Data.oE,bT]at k;obtain⟨r,c,rfl⟩:=k;simp only[Data.at,U.of,bT]at b;obtain⟨e,g,rfl⟩:=b;obtain⟨a,h1,h2⟩:=Fh c g;refine⟨a,h1,fun β v j=>?_⟩;cases a<;>simp only[af.iu,reduceCtorEq]at h2;rw[j.num_inv,bk.u5 h2];exact .num (.aF e)
  ·simp only[Data.oF,bT]at k;obtain⟨r,c,rfl⟩:=k;simp only[Data.at,U.of,bT]at b;obtain⟨e,g,rfl⟩:=b;obtain⟨a,h1,h2⟩:=Fh c g;refine⟨a,h1,fun β v j=>?_⟩;cases a<;>simp only[af.fF,reduceCtorEq]at h2;rw[j.num_inv,bk.oP h2];exact .num (.av e)
 |_=>simp[Data.words]at h
def O8:∀(l:List af),(mF l).1++(mF l).2=l
 |[]=>rfl|a::r=>by
  unfold mF;cases a.fE with
  |some _=>rfl|none=>exact iX (a::·) (O8 r)
def O9:∀(l:List af),∃cs,l=cs++(oG l).2∧cU af.fE cs=some (oG l).1
 |[]=>⟨[],rfl,rfl⟩|a::r=>by
  unfold oG;cases b:a.fE with
  |none=>exact⟨[],rfl,rfl⟩|some w=>
   obtain⟨cs,h1,h2⟩:=O9 r;refine⟨a::cs,iX (a::·) h1,?_⟩;simp only[cU,b,h2]
def I4(h:d.mid=some m):∃cs,d=.gen (m.pre++(cs++m.post))∧cU af.fE cs=some m.row.l:=by
 cases d with
 |gen l=>
  simp only[Data.mid,aD]at h;subst h;obtain⟨cs,h1,h2⟩:=O9 (mF l).2;refine⟨cs,?_,h2⟩
  show Data.gen l=Data.gen ((mF l).1++(cs++(oG (mF l).2).2));rw[←h1,O8]
 |_=>simp[Data.mid]at h
def Yf(v:U 8):Eo v v.n=v.l.map .bP:=by
 have a:=v.h;refine wX fun i=>?_;unfold Eo;rw[ef,ef];rcases cu i v.n with h|h
 ·simp[h,show i<v.l.length by omega]
 ·simp[h,show v.l.length≤i by omega]
def Fi(h:d.mid=some m):d.len=m.pre.length+m.row.n+m.post.length:=by
 obtain⟨cs,rfl,h2⟩:=I4 h;have h3:=tE h2;have h4:=m.row.h;simp only[Data.len,fB];omega
def Pa(h:d.mid=some m){β:aE}(a:aK β d.list vs):aK β (m.pre++(m.row.l.map .bP++m.post)) vs:=by
 obtain⟨cs,rfl,h2⟩:=I4 h;have h3:=tE h2;have h4:=m.row.h;have g:=a.1;simp only[Data.list,fB]at g;have j:vs=vs.take m.pre.length++((vs.drop m.pre.length).take cs.length++(vs.drop m.pre.length).drop cs.length):=by
  rw[Ed,Ed]
 have b:=a.take m.pre.length;have c:=(a.drop m.pre.length).take cs.length;have e:=(a.drop m.pre.length).drop cs.length;simp only[Data.list]at b c e;rw[List.take_left' rfl]at b;rw[V4 rfl,List.take_left' rfl]at c;rw[V4 rfl,V4 rfl]at e;rw[j];exact b.append ((I1 h2 c).append e)
def Pb(h:d.mid=some m){y:BitVec 8}(b:m.row.l[i]? =some y):∃a,d.at (m.pre.length+i)=some a∧∀(β:aE) v,aC β a v→aC β (.bP y) v:=by
 obtain⟨cs,rfl,h2⟩:=I4 h;obtain⟨a,h3,h4⟩:=Fh h2 b;refine⟨a,?_,fun β v c=>?_⟩
 ·show(m.pre++(cs++m.post))[m.pre.length+i]? =_;rw[gL (by omega),uF,gV (by
   rcases cu i cs.length with h|h
   ·exact h
   ·rw[dz h]at h3;cases h3)]
  exact h3
 ·cases a<;>simp only[af.fE,reduceCtorEq]at h4;rw[c.num_inv,bk.rV h4];exact .num (.bP y)
def I5(a:v.n=m.row.n):(m.put v).list=m.pre++(v.l.map .bP++m.post):=by
 show m.pre++(Eo v m.row.n++m.post)=_;rw[←a,Yf]
def Pc(h:d.mid=some m)(a:v.n=m.row.n):(m.put v).len=d.len:=by
 rw[Fi h,←Data.jx,I5 a];have:=v.h;simp only[fB,mA];omega
def Pd(h:d.mG n Q S=some (l,R)):Pure S R∧(R.ok→Q.v+n≤d.len∧l.length=n∧∀(j:Nat) e,j<n→l[j]? =some e→d.at (Q.v+j)=some e):=by
 cases d with
 |gen d=>
  cases Q with
  |s _=>simp[Data.mG]at h|c Q=>
   simp only[Data.mG,bT,aO]at h;obtain⟨p,h,rfl,rfl⟩:=h;obtain⟨h1,rfl⟩:=Cn _ _ _ _ h;refine⟨Pure.refl _,fun _=>⟨h1,by simp;omega,fun j e b a=>?_⟩⟩;simp only[lM,b,g6,s8]at a;exact a
 |aj v=>
  simp only[Data.mG,aD,aO]at h;obtain⟨rfl,rfl⟩:=h;refine⟨gi _ _,fun g=>?_⟩;have k:=bg (gp g);have o:=v.h;refine⟨k,by simp,fun j e b a=>?_⟩;simp[b]at a;simp[Data.at,show Q.v+j<v.l.length by omega]at a⊢;exact a
 |eX v=>
  simp only[Data.mG,aD,aO]at h;obtain⟨rfl,rfl⟩:=h;refine⟨gi _ _,fun g=>?_⟩;have k:=bg (gp g);have o:=v.h;refine⟨k,by simp,fun j e b a=>?_⟩;simp[b]at a;simp[Data.at,show Q.v+j<v.l.length by omega]at a⊢;exact a
 |bw v=>
  simp only[Data.mG,aD,aO]at h;obtain⟨rfl,rfl⟩:=h;refine⟨gi _ _,fun g=>?_⟩;have k:=bg (gp g);have o:=v.h;refine⟨k,by simp,fun j e b a=>?_⟩;simp[b]at a;simp[Data.at,show Q.v+j<v.l.length by omega]at a⊢;exact a
 |spot _ _ _=>simp[Data.mG]at h|e9 _ _=>simp[Data.mG]at h|lim _ _=>simp[Data.mG]at h
def Yg(h:d.cells n Q S=some (l,R)):Pure S R∧(R.ok→Q.v+n≤d.len∧l.length=n∧∀(j:Nat) a,j<n→l[j]? =some a→∃o,d.at (Q.v+j)=some o∧∀(β:aE) v,aC β o v→aC β a v):=by
 unfold Data.cells at h;split at h
 ·rename_i r q;cases h;obtain⟨h1,h2⟩:=Pd q;refine⟨h1,fun ok=>?_⟩;obtain⟨b,c,e⟩:=h2 ok;exact⟨b,c,fun j a g k=>⟨a,e j a g k,fun _ _ h=>h⟩⟩
 ·split at h
  ·rename_i P p;obtain⟨h1,h2⟩:=Pd h;refine⟨h1,fun ok=>?_⟩;obtain⟨b,c,e⟩:=h2 ok;exact⟨by rw[←zX p];exact b,c,fun j a g k=>I3 p (e j a g k)⟩
  ·cases h
end
section
variable [aR][aG]
variable{L:Loc}{b:Nat}{k:ah}{Q:af}{R:N}{w':World}{c i:Nat}{a:af}{U:Value}{g:Nat}
section
variable{P:Program}{G:Nat→Option (List af)}{β:aE}{T:List ah}{w:World}
def Yh{R:Nat}{vs:List Value}{t:TypeId}{d:Nat×Nat}(h:w.heap[c]? =some (.cells ⟨vs⟩ t d)):w.cell? (at' c R)=vs[R]? :=by
 simp[World.cell?,at',h]
def fI.rT{d:Data}(h:fI d c)(e:d.at i=some Q):gh (at' c i) false:=by
 cases d with
 |lim f l=>
  simp only[Data.at]at e;split at e
  ·rename_i j;exact⟨rfl,.inl ⟨h.1,fun _=>by rw[←h.2];exact j⟩⟩
  ·cases e
 |_=>exact oM.rT h i false
def hH.cell(f:hH β k L w)(n:k.mode.alive)(e:k.data.at i=some Q):
 ∃v,w.cell? (at' L.c (L.base+i))=some v∧aC β Q v∧gh (at' L.c (L.base+i)) false:=by
 obtain⟨d,m⟩:=k;cases m with
 |bn=>exact absurd rfl n|ro=>exact f.2.2 i Q e|own=>
  obtain⟨h,o,vs,t,bx,p,u,x,q,j⟩:=f;simp only at e q j;have r:=o.rT e;replace e:=Data.Ye e;obtain⟨v,l,s⟩:=j.get e;refine⟨v,?_,s,by rw[h,cM];exact r⟩;rw[h,cM,Yh p];rw[lM]at l;split at l<;>simp_all
def ai.r9{S:ai}{d:Data}(h:S.read b=some d):∃m:Mode,S.H[b]? =some ⟨d,m⟩∧m.alive:=by
 unfold ai.read at h;rw[cg]at h;cases e:S.H[b]? with
 |none=>simp[e]at h|some k=>
  obtain⟨f,m⟩:=k;rw[e]at h;cases m<;>simp at h<;>subst h<;>exact⟨_,rfl,by intro h;cases h⟩
def Data.Pe{d:Data}{S j:ai}(h:d.mE R S=some (Q,j)):Pure S j∧(j.ok→d.at R.v=some Q):=by
 cases d with
 |gen l=>
  cases R<;>simp[Data.mE]at h;obtain⟨a,p,rfl,rfl⟩:=h;rw[cg]at p;exact⟨Pure.refl _,fun _=>p⟩
 |aj l=>
  simp only[Data.mE,aD,aO]at h;obtain⟨rfl,rfl⟩:=h;refine⟨gi _ _,fun e=>?_⟩;have m:=bg (gp e);have o:=l.h;simp[Data.at,show R.v<l.l.length by omega]
 |eX l=>
  simp only[Data.mE,aD,aO]at h;obtain⟨rfl,rfl⟩:=h;refine⟨gi _ _,fun e=>?_⟩;have m:=bg (gp e);have o:=l.h;simp[Data.at,show R.v<l.l.length by omega]
 |bw l=>
  simp only[Data.mE,aD,aO]at h;obtain⟨rfl,rfl⟩:=h;refine⟨gi _ _,fun e=>?_⟩;have m:=bg (gp e);have o:=l.h;simp[Data.at,show R.v<l.l.length by omega]
 |e9 _ _=>simp[Data.mE]at h|lim f l=>
  simp only[Data.mE,aD,aO]at h;obtain⟨rfl,rfl⟩:=h;refine⟨(gi _ _).trans (gi _ _),fun e=>?_⟩;have q:=gp e;have m:=bg (gp ((gi _ _).ok e));have o:=l.h;simp[Data.at,q,show R.v<l.l.length by omega]
 |spot n r s=>
  simp only[Data.mE,aD,aO]at h;obtain⟨rfl,rfl⟩:=h;refine⟨gi _ _,fun e=>?_⟩;obtain⟨h1,h2⟩:=bg (gp e);rw[h1];simp[Data.at,h2]
def Data.Yi{d:Data}{S e:ai}(h:d.zf R S=some (Q,e)):Pure S e∧(e.ok→∃y,d.at R.v=some y∧∀(β:aE) v,aC β y v→aC β Q v):=by
 unfold Data.zf at h;split at h
 ·rename_i m f;simp only[aD,aO]at h;obtain⟨rfl,rfl⟩:=h;refine⟨gi _ _,fun j=>?_⟩;have n:=bg (gp j);have o:=m.row.h;obtain⟨y,h1,h2⟩:=Pb f (i:=R.v-m.pre.length) (y:=m.row.l.getD (R.v-m.pre.length) 0#8) (by simp[show R.v-m.pre.length<m.row.l.length by omega]);exact⟨y,by rw[show R.v=m.pre.length+(R.v-m.pre.length) by omega];exact h1,h2⟩
 ·cases h
def Data.Pf{d:Data}{S e:ai}(h:d.get R S=some (Q,e)):Pure S e∧(e.ok→∃f,d.at R.v=some f∧∀(β:aE) v,aC β f v→aC β Q v):=by
 unfold Data.get at h;split at h
 ·rename_i r j;cases h;obtain⟨h1,h2⟩:=Data.Pe j;exact⟨h1,fun ok=>⟨Q,h2 ok,fun _ _ h=>h⟩⟩
 ·split at h
  ·rename_i m l;obtain⟨h1,h2⟩:=Data.Pe h;exact⟨h1,fun ok=>I3 l (h2 ok)⟩
  ·exact Data.Yi h
def Pg{S f:ai}(u:aM G β S.H w)(x:aC β a U)(h:uN G a S=some (Q,f)):
 Pure S f∧(f.ok→∃p v,U=.pointer (some p)∧w.cell? p=some v∧aC β Q v∧gh p false):=by
 unfold uN at h;split at h
 ·rename_i b R;obtain⟨L,y,rfl⟩:=x.qK;cases j:S.read b with
  |none=>simp[j]at h|some d=>
   simp only[j]at h;obtain⟨n,e⟩:=Data.Pf h;refine⟨n,fun ok=>?_⟩;obtain⟨z,e,o⟩:=e ok;obtain⟨m,D,A⟩:=ai.r9 j;rcases u.blk b _ D A with⟨I,B,E⟩|⟨_,C⟩
   ·rw[y]at B;injection B with F;subst F;obtain⟨v,q,r,s⟩:=E.cell A e;exact⟨_,v,rfl,q,o _ _ r,s⟩
   ·rw[y]at C;cases C
 ·rename_i g R;rw[x.Cm];cases t:G g with
  |none=>simp[t]at h|some l=>
   simp only[t]at h;obtain⟨n,e⟩:=Data.Pf h;refine⟨n,fun ok=>?_⟩;obtain⟨z,e,o⟩:=e ok;obtain⟨v,q,r,s⟩:=(u.dA g l t).2 _ z e;exact⟨_,v,rfl,q,(o _ _ r).mono (fun _ _ h=>by cases h),s⟩
 ·cases h
def oV(c R n:Nat):(at' c R).add n=at' c (R+n):=by
 unfold Addr.add at';split<;>simp_all
def Cq(k R n:Nat):(gz k R).add n=gz k (R+n):=by
 obtain⟨b,d⟩:=r6 k;rw[d,d,oV,iD]
def Ph{S z:ai}{n:Nat}{l:List af}(I:aM G β S.H w)(J:aC β a U)(h:rP G a n S=some (l,z)):
 Pure S z∧(z.ok→∃p vs,U=.pointer (some p)∧aK β l vs∧l.length=n∧(∀(j:Nat) v,vs[j]? =some v→w.cell? (p.add j)=some v)∧∀j,j<n→gh (p.add j) false):=by
 have K:∀(f:Nat→Option af) (p:Addr) (l:List af),l.length=n→(∀j,j<n→∃v,w.cell? (p.add j)=some v∧∀Q,l[j]? =some Q→aC β Q v)→
  ∃vs,aK β l vs∧∀(j:Nat) v,vs[j]? =some v→w.cell? (p.add j)=some v:=by
  intro f p l Y e;refine⟨(List.range n).map fun j=>(w.cell? (p.add j)).getD undef,⟨by simp[Y],?_⟩,?_⟩
  ·intro j Q v A o;rcases cu j n with q|q
   ·obtain⟨u,y,Z⟩:=e j q;simp[q,y]at o;subst o;exact Z Q A
   ·rw[dz (by omega)]at A;cases A
  ·intro j v o;rcases cu j n with q|q
   ·obtain⟨u,y,_⟩:=e j q;simp[q,y]at o;rw[y,o]
   ·simp[show¬j<n by omega]at o
 unfold rP at h;split at h
 ·rename_i b R;obtain⟨L,M,rfl⟩:=J.qK;cases B:S.read b with
  |none=>simp[B]at h|some d=>
   simp only[B]at h;obtain⟨aa,ab⟩:=Yg h;refine⟨aa,fun ok=>?_⟩;obtain⟨h1,t,ad⟩:=ab ok;obtain⟨m,ae,O⟩:=ai.r9 B;have x:∀j,j<n→∃v,(w.cell? ((at' L.c (L.base+R.v)).add j)=some v∧∀Q,l[j]? =some Q→aC β Q v)∧gh ((at' L.c (L.base+R.v)).add j) false:=by
    intro j e;rcases I.blk b _ ae O with⟨am,V,ag⟩|⟨an,W⟩
    ·rw[M]at V;injection V with aj;subst aj;have X:l[j]? =some l[j]:=bX (by omega);obtain⟨ao,ak,al⟩:=ad j _ e X;obtain⟨v,o,C,D⟩:=ag.cell O ak;refine⟨v,⟨by rw[oV,iD];exact o,fun Q r=>?_⟩,by rw[oV,iD];exact D⟩;rw[X]at r;injection r with r;subst r;exact al _ _ C
    ·rw[M]at W;cases W
   have E:∀j,j<n→∃v,w.cell? ((at' L.c (L.base+R.v)).add j)=some v∧∀Q,l[j]? =some Q→aC β Q v:=fun j e=>let⟨v,h,_⟩:=x j e;⟨v,h⟩;obtain⟨vs,h3,h4⟩:=K (fun _=>none) (at' L.c (L.base+R.v)) _ t E;exact⟨_,vs,rfl,h3,t,h4,fun j e=>let⟨_,_,h⟩:=x j e;h⟩
 ·rename_i g R;rw[J.Cm];cases R with
  |s _=>simp at h|c R=>
   simp only at h;cases n with
   |zero=>
    simp only[aD,aO]at h;obtain⟨rfl,rfl⟩:=h;exact⟨Pure.refl _,fun _=>⟨_,[],rfl,aK.nil β,rfl,fun j v o=>by simp at o,fun j e=>absurd e (oz _)⟩⟩
   |succ n=>
    simp only at h;cases F:G g with
    |none=>simp[F]at h|some d=>
     simp only[F,bT,aO]at h;obtain⟨ap,h,rfl,rfl⟩:=h;obtain⟨h1,rfl⟩:=Cn _ _ _ _ h;have t:((d.drop R).take (n+1)).length=n+1:=by simp;omega
     have x:∀j,j<n+1→∃v,(w.cell? ((gz g R).add j)=some v∧∀Q,((d.drop R).take (n+1))[j]? =some Q→aC β Q v)∧gh ((gz g R).add j) false:=by
      intro j e;obtain⟨v,o,C,D⟩:=(I.dA g d F).2 (R+j) d[R+j] (by simp[show R+j<d.length by omega]);refine⟨v,⟨by rw[Cq];exact o,fun Q r=>?_⟩,by rw[Cq];exact D⟩;have:Q=d[R+j]:=by
       simp[e,show R+j<d.length by omega]at r;exact r.symm
      rw[this];exact C.mono (fun _ _ h=>by cases h)
     have E:∀j,j<n+1→∃v,w.cell? ((gz g R).add j)=some v∧∀Q,((d.drop R).take (n+1))[j]? =some Q→aC β Q v:=fun j e=>let⟨v,h,_⟩:=x j e;⟨v,h⟩;obtain⟨vs,h3,h4⟩:=K (fun _=>none) (gz g R) _ t E;exact⟨Pure.refl _,fun _=>⟨_,vs,rfl,h3,t,h4,fun j e=>let⟨_,_,h⟩:=x j e;h⟩⟩
 ·cases h
def aE.put(β:aE)(b:Nat)(L:Loc):aE:=fun Q=>if Q=b then some L else β Q
def aE.Fj{β:aE}(h:β b=none):aE.le β (β.put b L):=by
 intro Q f d;unfold aE.put;split
 ·rename_i e;subst e;rw[h]at d;cases d
 ·exact d
def aE.gq(β:aE)(b:Nat)(L:Loc):β.put b L b=some L:=by simp[aE.put]
def aE.g5{β:aE}{Q:Nat}(h:Q≠b):β.put b L Q=β Q:=by simp[aE.put,h]
def aM.I6(h:aM G β T w):β T.length=none:=by
 cases d:β T.length with
 |none=>rfl|some L=>exact absurd (h.fl _ L d) (by omega)
def jb.mono{e:aE}{d:Data}(j:aE.le β e)(h:jb β d L w)(l:w.heap.size≤w'.heap.size)(m:bL L.c w w'):jb e d L w':=
 ⟨dN h.1 l,h.2.1,fun i Q n=>by
  obtain⟨v,o,p,f⟩:=h.2.2 i Q n;exact⟨v,m.cell f o,p.mono j,f⟩⟩
def r8.mono{e:aE}{d:Data}(j:aE.le β e)(h:r8 β d L w)(l:bL L.c w w'):r8 e d L w':=by
 obtain⟨m,f,vs,t,bx,n,o,p,q,r⟩:=h;exact⟨m,f,vs,t,bx,by rw[l.1 f.mine];exact n,o,p,q,r.mono j⟩
def hH.mono{e:aE}(f:aE.le β e)(h:hH β k L w)(l:w.heap.size≤w'.heap.size)(j:bL L.c w w'):hH e k L w':=by
 obtain⟨d,m⟩:=k;cases m
 ·exact jb.mono f h l j
 ·exact r8.mono f h j
 ·trivial
def hH.lt(h:hH β k L w)(e:k.mode.alive):L.c<w.heap.size:=by
 obtain⟨d,m⟩:=k;cases m
 ·exact h.1
 ·obtain⟨_,_,vs,t,bx,f,_⟩:=h;exact(dX.1 f).1
 ·exact absurd rfl e
def hH.room(h:hH β k L w)(e:k.mode.alive):k.data.len≤L.room:=by
 obtain⟨d,m⟩:=k;cases m
 ·exact h.2.1
 ·obtain⟨_,_,vs,t,bx,j,_,_,f,_⟩:=h;exact f
 ·exact absurd rfl e
def aM.room(h:aM G β T w)(l:T[b]? =some k)(d:k.mode.alive)(e:β b=some L):k.data.len≤L.room:=by
 rcases h.blk b k l d with⟨o,f,m⟩|⟨_,j⟩
 ·rw[e]at f;injection f with n;subst n;exact m.room d
 ·rw[e]at j;cases j
def aM.lt(h:aM G β T w)(l:T[b]? =some k)(d:k.mode.alive)(e:β b=some L):L.c<w.heap.size:=by
 rcases h.blk b k l d with⟨o,f,m⟩|⟨_,j⟩
 ·rw[e]at f;injection f with n;subst n;exact m.lt d
 ·rw[e]at j;cases j
def eo(h:k.mode=.own):k.mode.alive:=by rw[h];intro h;cases h
def aM.new(j:aM G β T w)(d:Data)(vs:List Value)(t:TypeId)(E:d.len≤vs.length)(F:aK β d.list (vs.take d.len))(H:fI d w.heap.size):
 aM G (β.put T.length ⟨w.heap.size,0,vs.length⟩) (T++[⟨d,.own⟩]) (w.alloc (.cells ⟨vs⟩ t))∧
 bJ β T w (β.put T.length ⟨w.heap.size,0,vs.length⟩) (T++[⟨d,.own⟩]) (w.alloc (.cells ⟨vs⟩ t)):=by
 have s:=aE.Fj (L:=⟨w.heap.size,0,vs.length⟩) j.I6;have hold:∀c,c<w.heap.size→(w.alloc (.cells ⟨vs⟩ t)).heap[c]? =w.heap[c]? :=fun c u=>RowKit.Below.heap_alloc w _ c u;have I:(w.alloc (.cells ⟨vs⟩ t)).heap[w.heap.size]? =some (.cells ⟨vs⟩ t (0,0)):=by
  show(w.heap.push _)[w.heap.size]? =_;simp
 have X:(w.alloc (.cells ⟨vs⟩ t)).heap.size=w.heap.size+1:=by
  show(w.heap.push _).size=_;simp
 have n:∀(b:Nat) k,(T++[⟨d,.own⟩])[b]? =some k→(b<T.length∧T[b]? =some k)∨(b=T.length∧k=⟨d,.own⟩):=by
  intro b k e;rcases wV b T.length with h|h|h
  ·rw[gV h]at e;exact .inl ⟨h,e⟩
  ·subst h;simp at e;exact .inr ⟨rfl,e.symm⟩
  ·rw[gL (by omega)]at e;rw[dz (by simp;omega)]at e;cases e
 refine⟨⟨?_,?_,?_,?_,?_⟩,⟨s,by simp,rfl,rfl,rfl,by omega,fun c u _=>bL.of (hold c u),?_,fun b n=>aE.g5 (by omega)⟩⟩
 ·intro b k e r;rcases n b k e with⟨h,e⟩|⟨rfl,rfl⟩
  ·rcases j.blk b k e r with⟨L,f,A⟩|⟨h2,h3⟩
   ·exact .inl ⟨L,s b L f,A.mono s (by omega) (bL.of (hold _ (A.lt r)))⟩
   ·exact .inr ⟨h2,by rw[aE.g5 (by omega)];exact h3⟩
  ·exact .inl ⟨_,aE.gq ..,rfl,H,vs,t,(0,0),I,.inl rfl,rfl,E,F.mono s⟩
 ·intro b x k y L J B e o p r f q;rcases n b k e with⟨h,e⟩|⟨rfl,rfl⟩
  ·rw[aE.g5 (by omega)]at f;rcases n x y o with⟨K,o⟩|⟨rfl,rfl⟩
   ·rw[aE.g5 (by omega)]at q;exact j.dL b x k y L J B e o p r f q
   ·rw[aE.gq]at q;injection q with m;subst m;have:=j.lt e (eo p) f;simp only;omega
  ·rw[aE.gq]at f;injection f with m;subst m;rcases n x y o with⟨K,o⟩|⟨rfl,rfl⟩
   ·rw[aE.g5 (by omega)]at q;have:=j.lt o r q;simp only;omega
   ·exact absurd rfl B
 ·intro b L f;simp only[fB,iW,kI];by_cases m:b=T.length
  ·omega
  ·rw[aE.g5 m]at f;have:=j.fl b L f;omega
 ·intro g l z;obtain⟨h1,h2⟩:=j.dA g l z;refine⟨by omega,fun i Q M=>?_⟩;obtain⟨v,C,O,S⟩:=h2 i Q M;obtain⟨V,W⟩:=r6 g;exact⟨v,by rw[W]at C⊢;rw[World.cell?_of_block (w:=w) (a:=at' (gZ g) (V+i)) (hold _ h1)];exact C,O,S⟩
 ·intro b k L e p f;rcases n b k e with⟨h,e⟩|⟨rfl,rfl⟩
  ·rw[aE.g5 (by omega)]at f;exact j.apart b k L e p f
  ·rw[aE.gq]at f;injection f with m;subst m;intro g l z;have:=(j.dA _ l z).1;simp only;omega
 ·intro c u ⟨b,k,L,e,p,f,D⟩;rcases n b k e with⟨h,e⟩|⟨rfl,rfl⟩
  ·rw[aE.g5 (by omega)]at f;exact⟨b,k,L,e,p,f,D⟩
  ·rw[aE.gq]at f;injection f with m;subst m;simp only at D;omega
def aM.write(f:aM G β T w){d d':Data}(n:T[b]? =some ⟨d,.own⟩)(q:β b=some L)(p:List Value)
 (M:p.length=L.room) (W:d'.len≤L.room) (X:aK β d'.list (p.take d'.len)) (Y:∀c,fI d c→fI d' c):
 aM G β (T.set b ⟨d',.own⟩) (w.setRow L.c ⟨p⟩)∧bJ β T w β (T.set b ⟨d',.own⟩) (w.setRow L.c ⟨p⟩):=by
 have Z:b<T.length:=by
  rcases cu b T.length with h|h
  ·exact h
  ·simp[dz h]at n
 have aa:r8 β d L w:=by
  rcases f.blk b _ n (eo rfl)with⟨j,m,D⟩|⟨_,A⟩
  ·rw[q]at m;injection m with o;subst o;exact D
  ·rw[q]at A;cases A
 obtain⟨ab,ad,vs,t,bx,ae,ag,ai,ap,aq⟩:=aa;have r:∀(Q:Nat) k,(T.set b ⟨d',.own⟩)[Q]? =some k→(Q=b∧k=⟨d',.own⟩)∨(Q≠b∧T[Q]? =some k):=by
  intro Q k e;by_cases o:Q=b
  ·subst o;rw[pL Z]at e;injection e with e;exact .inl ⟨rfl,e.symm⟩
  ·rw[mw (fC o)]at e;exact .inr ⟨o,e⟩
 have aj:=setRow_heap w L.c ⟨vs⟩ ⟨p⟩ t bx ae;have E:∀c,c≠L.c→(w.setRow L.c ⟨p⟩).heap[c]? =w.heap[c]? :=fun c F=>setRow_other w L.c c _ F;refine⟨⟨?_,?_,?_,?_,?_⟩,⟨aE.le_refl β,by simp,rfl,rfl,rfl,by simp,?_,?_,fun _ _=>rfl⟩⟩
 ·intro Q k e z;rcases r Q k e with⟨rfl,rfl⟩|⟨s,e⟩
  ·exact .inl ⟨L,q,ab,Y _ ad,p,t,bx,aj,by rw[M,←ai];exact ag,M,W,X⟩
  ·rcases f.blk Q k e z with⟨j,m,D⟩|h
   ·refine .inl ⟨j,m,D.mono (aE.le_refl β) (by simp) (bL.of (E _ ?_))⟩;exact(f.dL b Q _ k L j (fC s) n e rfl z q m).symm
   ·exact .inr h
 ·intro Q B k C H I u e x y z J K;rcases r Q k e with⟨rfl,rfl⟩|⟨s,e⟩
  ·rcases r B C x with⟨rfl,rfl⟩|⟨ak,x⟩
   ·exact absurd rfl u
   ·exact f.dL Q B _ C H I u n x rfl z J K
  ·rcases r B C x with⟨o,rfl⟩|⟨ak,x⟩
   ·subst o;exact f.dL Q _ k _ H I u (by assumption) n y (eo rfl) J K
   ·exact f.dL Q B k C H I u (by assumption) x y z J K
 ·intro Q j h;simpa using f.fl Q j h
 ·intro g l O;obtain⟨h1,h2⟩:=f.dA g l O;refine⟨by simpa using h1,fun i Q s=>?_⟩;obtain⟨v,S,al,am⟩:=h2 i Q s;have u:gZ g≠L.c:=f.apart b _ L n rfl q g l O;obtain⟨an,ao⟩:=r6 g;exact⟨v,by rw[ao]at S⊢;rw[World.cell?_of_block (w:=w) (a:=at' (gZ g) (an+i)) (E _ u)];exact S,al,am⟩
 ·intro Q k j e y m;rcases r Q k e with⟨rfl,rfl⟩|⟨s,e⟩
  ·exact f.apart Q _ j n rfl m
  ·exact f.apart Q k j e y m
 ·intro c F A;refine bL.of (E c fun o=>A ⟨b,_,L,n,rfl,q,o.symm⟩)
 ·intro c F ⟨Q,k,j,e,y,m,V⟩;rcases r Q k e with⟨rfl,rfl⟩|⟨s,e⟩
  ·exact⟨Q,_,j,n,rfl,m,V⟩
  ·exact⟨Q,k,j,e,y,m,V⟩
def aM.kill(j:aM G β T w)(b:Nat)(d:Data):aM G β (T.set b ⟨d,.bn⟩) w:=by
 have m:∀(Q:Nat) k,(T.set b ⟨d,.bn⟩)[Q]? =some k→k.mode.alive→T[Q]? =some k:=by
  intro Q k e f;by_cases n:Q=b
  ·subst n;rcases cu Q T.length with h|h
   ·rw[pL h]at e;injection e with e;subst e;exact absurd rfl f
   ·rw[dz (by simpa using h)]at e;cases e
  ·rwa[mw (fC n)]at e
 refine⟨fun Q k e f=>j.blk Q k (m Q k e f) f,fun Q o k p L q r e s l f=>j.dL Q o k p L q r (m Q k e (eo l)) (m o p s f) l f,
  fun Q L h=>by simpa using j.fl Q L h,j.dA,fun Q k L e l=>j.apart Q k L (m Q k e (eo l)) l⟩
def Fl(P:Program)(g R:Nat)(t:TypeId)(bx:Nat×Nat):∀(vs:List Value) (i:Nat) (d:Array Value) (w:World),w.heap[g]? =some (.cells d t bx)→I0 bx d.size→R+i+vs.length≤d.size→(∀v∈vs,v.oneCell'=true)→(∀k,R+i≤k→k<R+i+vs.length→gh (at' g k) true)→
 (storeCells ⟨g,R,none⟩ vs i).aI P w=.ok () (w.setRow g (d.toList.take (R+i)++vs++d.toList.drop (R+i+vs.length)).toArray)
 |[],i,d,w,e,_,_,_,_=>by
  simp only[storeCells,uG,kI,gb,Ed,Array.toArray_toList];rw[setRow_self w g d t bx e];rfl
 |v::rest,i,d,w,e,j,h,h1,l=>by
  have hi:R+i<d.size:=by simp at h;omega
  have m:(⟨g,R,none⟩:Addr).add i=⟨g,R+i,none⟩:=by unfold Addr.add;split<;>simp_all
  have n:w.cell? ⟨g,R+i,none⟩=some d[R+i]:=by simp[World.cell?,e,hi]
  have o:w.frozen? ⟨g,R+i,none⟩=false:=by
   obtain⟨lo,x⟩:=bx;simp only[World.frozen?,e,y3,wY];rcases j with f|f
   ·injection f with p q;right;omega
   ·injection f with p q;left;omega
  have r:(store ((⟨g,R,none⟩:Addr).add i) v).aI P w=.ok () (w.setRow g (d.setIfInBounds (R+i) v)):=by
   rw[m,WE P w _ v (h1 v (by simp)) n o (l (R+i) (aV _) (by simp))];simp[setCell_eq_setRow w g (R+i) d t bx v e]
  have s:=Fl P g R t bx rest (i+1) (d.setIfInBounds (R+i) v) (w.setRow g (d.setIfInBounds (R+i) v)) (setRow_heap w g d _ t _ e) (by simpa using j) (by simp at h⊢;omega) (fun Q u=>h1 Q (by simp[u])) (fun k h1 h2=>l k (by omega) (by simp at h2⊢;omega));simp only[storeCells,Sem.tr,r,Result.andThen_ok,s,setRow_setRow];congr 3;have f:=list_seg_step d.toList (R+i) v rest (by simp at h⊢;omega);simpa[V5,iD]using f
def aM.Yj(j:aM G β T w)(l:T[b]? =some k)(n:k.mode=.own)(e:β b=some L):aG.mine L.c:=by
 obtain⟨d,m⟩:=k;cases n;rcases j.blk b _ l (eo rfl)with⟨q,f,o⟩|⟨_,h⟩
 ·rw[e]at f;injection f with p;subst p;exact o.2.1.mine
 ·rw[e]at h;cases h
def aM.Yk(j:aM G β T w)(l:T[b]? =some k)(n:k.mode=.own)(e:β b=some L):fI k.data L.c:=by
 obtain⟨d,m⟩:=k;cases n;rcases j.blk b _ l (eo rfl)with⟨q,f,o⟩|⟨_,h⟩
 ·rw[e]at f;injection f with p;subst p;exact o.2.1
 ·rw[e]at h;cases h
def aM.rely(d:aM G β T w){f:World}(h:eK w f):aM G β T f:=by
 refine⟨fun b k o j=>?_,d.dL,d.fl,fun g l p=>?_,d.apart⟩
 ·rcases d.blk b k o j with⟨L,q,m⟩|h2
  ·exact .inl ⟨L,q,m.mono (aE.le_refl β) h.size (h.O4 (m.lt j))⟩
  ·exact .inr h2
 ·obtain⟨h1,h2⟩:=d.dA g l p;refine⟨dN h1 h.size,fun i Q r=>?_⟩;obtain⟨v,n,s,e⟩:=h2 i Q r;obtain⟨u,t⟩:=r6 g;rw[t]at n e⊢;exact⟨v,h.cell e n,s,e⟩
def aM.mark(f:aM G β T w){d:Data}(n:T[b]? =some ⟨d,.own⟩)(j:β b=some L):
 ∃(e:TypeId),w.shape? L.c=some (e,L.room)∧aM G β T (w.freeze ⟨L.c,L.room,none⟩ 1)∧bJ β T w β T (w.freeze ⟨L.c,L.room,none⟩ 1):=by
 have F:r8 β d L w:=by
  rcases f.blk b _ n (eo rfl)with⟨s,o,u⟩|⟨_,q⟩
  ·rw[j]at o;injection o with e;subst e;exact u
  ·rw[j]at q;cases q
 obtain⟨H,I,vs,t,bx,x,J,r,K,M⟩:=F;have O:L.c<w.heap.size:=(dX.1 x).1;have p:w.heap[L.c]=.cells ⟨vs⟩ t bx:=(dX.1 x).2;have S:(w.freeze ⟨L.c,L.room,none⟩ 1).heap[L.c]? =some (.cells ⟨vs⟩ t (vs.length,vs.length+1)):=by
  unfold World.freeze;rw[ak (by decide)];simp only;rw[dP (by simpa using O),Array.getElem_modify];obtain⟨lo,hi⟩:=bx;rcases J with e|e
  ·injection e with y z;subst y z;simp[p,r]
  ·injection e with y z;subst y z;simp[p,r]
 have A:∀c,c≠L.c→(w.freeze ⟨L.c,L.room,none⟩ 1).heap[c]? =w.heap[c]? :=by
  intro c C;unfold World.freeze;rw[ak (by decide)];simp only;rw[HP,ak (fC C)]
 have ab:(w.freeze ⟨L.c,L.room,none⟩ 1).heap.size=w.heap.size:=by
  unfold World.freeze;rw[ak (by decide)];simp
 have B:(w.freeze ⟨L.c,L.room,none⟩ 1).os=w.os∧(w.freeze ⟨L.c,L.room,none⟩ 1).tape=w.tape∧(w.freeze ⟨L.c,L.room,none⟩ 1).output=w.output:=by
  unfold World.freeze;rw[ak (by decide)];exact⟨rfl,rfl,rfl⟩
 refine⟨t,by simp[World.shape?,x,r],⟨?_,f.dL,f.fl,?_,f.apart⟩,⟨aE.le_refl β,aV _,B.1,B.2.1,B.2.2,by omega,?_,fun _ _ h=>h,fun _ _=>rfl⟩⟩
 ·intro Q k m D;by_cases e:Q=b
  ·subst e;rw[n]at m;injection m with m;subst m;exact .inl ⟨L,j,H,I,vs,t,_,S,.inr rfl,r,K,M⟩
  ·rcases f.blk Q k m D with⟨s,o,u⟩|h
   ·refine .inl ⟨s,o,u.mono (aE.le_refl β) (by omega) (bL.of (A _ ?_))⟩;exact(f.dL b Q _ k L s (fC e) n m rfl D j o).symm
   ·exact .inr h
 ·intro g l E;obtain⟨h1,h2⟩:=f.dA g l E;refine⟨by omega,fun i Q V=>?_⟩;obtain⟨v,p,W,X⟩:=h2 i Q V;have Y:gZ g≠L.c:=f.apart b _ L n rfl j g l E;obtain⟨Z,aa⟩:=r6 g;exact⟨v,by rw[aa]at p⊢;rw[World.cell?_of_block (w:=w) (a:=at' (gZ g) (Z+i)) (A _ Y)];exact p,W,X⟩
 ·intro c C q;refine bL.of (A c fun e=>q ?_);exact⟨b,_,L,n,rfl,j,e.symm⟩
def vo(w:World)(R:Obj):ff w (w.alloc R):=⟨rfl,rfl,rfl,fun c d _=>RowKit.Below.heap_alloc w _ c d⟩
def I7(w:World)(d:aG.mine g)(vs:Array Value):ff w (w.setRow g vs):=⟨rfl,rfl,rfl,fun c h e=>setRow_other w g c _ (show c≠g from fun f=>e (by rw[f];exact d))⟩
def Yl(w:World):ff w w.drew:=⟨rfl,rfl,rfl,fun _ _ _=>rfl⟩
def ff.trans{a b c:World}(h:ff a b)(k:ff b c)(f:a.heap.size≤b.heap.size):ff a c:=
 ⟨k.os.trans h.os,k.tape.trans h.tape,k.output.trans h.output,fun Q d e=>(k.jN Q (dN d f) e).trans (h.jN Q d e)⟩
def Ym(w:World)(d:aG.mine g)(R n:Nat):ff w (w.freeze ⟨g,R,none⟩ n):=by
 unfold World.freeze;split
 ·exact ff.refl w
 ·refine⟨rfl,rfl,rfl,fun c h e=>?_⟩;simp only;rw[HP,ak (fun f=>e (by rw[←f];exact d))]
def xE{w:World}{R:Obj}(h:lm w (w.alloc R)):oM w.heap.size:=h _ (aV _) (by show w.heap.size<(w.heap.push _).size;simp)
def I8{w:World}{R:Obj}(h:lm w (w.drew.alloc R)):oM w.drew.heap.size:=h _ (aV _) (by show w.heap.size<(w.heap.push _).size;simp)
def I9(w:World)(R:Obj):ff w (w.drew.alloc R):=(Yl w).trans (vo _ _) (aV _)
def Fo(P:Program)(w:World)(a:Addr)(cs:List Value)(h:∀(j:Nat) v,cs[j]? =some v→w.cell? (a.add j)=some v)(l:∀j,j<cs.length→gh (a.add j) false):
 (loadCells a cs.length).aI P w=.ok ⟨cs⟩ w:=by
 have m:∀(n i:Nat) (d:Array Value),i+n=cs.length→d.toList=cs.take i→(loadCellsFrom a i n d).aI P w=.ok ⟨cs⟩ w:=by
  intro n
  induction n with
  |zero=>
   intro i d hi e;simp only[loadCellsFrom,Sem.fS];congr 1;apply j3;rw[e,qy (by omega)]
  |succ n o=>
   intro i d hi e;have f:i<cs.length:=by omega
   simp only[loadCellsFrom,Sem.tr,B2 P w (h i cs[i] (bX f)) (l i f),Result.andThen_ok];refine o (i+1) _ (by omega) ?_;rw[Array.toList_push,e,V6,bX f];rfl
 exact m cs.length 0 #[] (by omega) (by simp)
def vp(P:Program)(w:World)(size n:Nat)(b:Addr)(len d:Nat)(cs:List Value)(e:cs.length=n*size)(h:∀(j:Nat) v,cs[j]? =some v→w.cell? (b.add j)=some v)(f:∀j,j<cs.length→gh (b.add j) false):
 (Builtin.firstCells size n (.slice (some b) len d)).aI P w=.ok ⟨cs⟩ w:=by
 simp only[Builtin.firstCells,←e];exact Fo P w b cs h f
def xF(P:Program)(w:World)(size n len d:Nat):(Builtin.firstCells size n (.slice none len d)).aI P w=.ok #[] w:=by simp[Builtin.firstCells]
def ai.zY{S e:ai}{d:Data}(h:S.write b d=some e):∃j,S.H[b]? =some ⟨j,.own⟩∧e.H=S.H.set b ⟨d,.own⟩∧e.low=min S.low b∧e.cond=S.cond∧e.dec=S.dec:=by
 unfold ai.write at h;rw[cg]at h;cases f:S.H[b]? with
 |none=>simp[f]at h|some k=>
  obtain⟨l,m⟩:=k;rw[f]at h;cases m<;>simp at h;subst h;exact⟨l,rfl,iN _ _ _,rfl,rfl,rfl⟩
end
end
section
variable [aR][aG]
variable{S T:ai}{o:N}{Q:af}{t:TypeId}{v:Value}{b n:Nat}{l R:List af}{vs:List Value}{V:Type}{W:ai}
section
variable{P:Program}{G:Nat→Option (List af)}{β:aE}{w:World}
def Does(P:Program)(G:Nat→Option (List af))(β:aE)(S:ai)(w:World)(c:Sem Value)(Q:af)(T:ai):Prop:=
 ∃v w',c.aI P w=.ok v w'∧ff w w'∧(lm w w'→∃a,aC a Q v∧aM G a T.H w'∧bJ β S.H w a T.H w')
def Ja(P:Program)(G:Nat→Option (List af))(β:aE)(S:ai)(w:World)(c:Sem Unit)(T:ai):Prop:=
 ∃w',c.aI P w=.ok () w'∧ff w w'∧(lm w w'→∃a,aM G a T.H w'∧bJ β S.H w a T.H w')
def Does.pure{a:Sem Value}(d:aM G β S.H w)(c:Pure S T)(h:a.aI P w=.ok v w)(e:aC β Q v):Does P G β S w a Q T:=by
 refine⟨v,w,h,ff.refl w,fun _=>⟨β,e,?_,?_⟩⟩
 ·rw[c.H];exact d
 ·rw[c.H];exact bJ.refl β S.H w
def cN{d:TypeDesc}(h:P.underlying t=some d)(w:World):(underlying t).aI P w=.ok d w:=zC h w
def vq{b:Bool}(h:nq P t=some b)(w:World):(isAgg t).aI P w=.ok b w:=by
 unfold nq at h;cases a:P.underlying t with
 |none=>simp[a]at h|some d=>cases d<;>simp[a]at h<;>subst h<;>simp[isAgg,cN a]
def Cr(h:eg P t=some n):∃i,P.info? t=some i∧i.size=n:=by
 unfold eg at h;cases hi:P.info? t with
 |none=>simp[hi]at h|some i=>simp[hi]at h;exact⟨i,rfl,h⟩
def hJ(h:eg P t=some n)(w:World):(sizeOf t).aI P w=.ok n w:=by
 obtain⟨i,hi,rfl⟩:=Cr h;simp[sizeOf,typeInfo,hi]
def Jb(h:Q.single=true)(a:aC β Q v):v.oneCell'=true∧v.cells=#[v]:=by
 cases a<;>simp[af.single]at h<;>simp[Value.oneCell',Value.cells,bk.val]
def Jc(h:Q.row=some l)(a:aC β Q v):aK β l v.cells.toList:=by
 unfold af.row at h;split at h
 ·cases h;obtain⟨vs,rfl,c⟩:=a.xD;exact c
 ·split at h
  ·rename_i d;cases h;rw[(Jb d a).2];exact aK.cons a (aK.nil β)
  ·cases h
def Pj(h:zg R=true)(a:aK β R vs):∀v∈vs,v.oneCell'=true:=by
 induction R generalizing vs with
 |nil=>rw[a.r7];intro v a;cases a
 |cons Q R e=>
  obtain⟨v,f,rfl,h1,h2⟩:=a.cons_inv;simp only[zg]at h;cases c:Q.single with
  |false=>simp[c]at h|true=>
   simp only[c]at h;intro u d;rcases jJ.1 d with rfl|d
   ·exact(Jb c h1).1
   ·exact e h h2 u d
def Yn{a:af}{q:Value}(h:oH P G t a S=some (Q,T))(s:aC β a q)(e:aM G β S.H w):
 Pure S T∧(T.ok→Does P G β S w (Instr.loadAt t q) Q T):=by
 unfold oH at h;cases c:nq P t with
 |none=>simp[c]at h|some b=>
  cases b with
  |true=>
   simp only[c]at h;cases f:eg P t with
   |none=>simp[f]at h|some n=>
    simp only[f]at h;cases g:rP G a n S with
    |none=>simp[g]at h|some r=>
     obtain⟨l,z⟩:=r;simp only[g,aD,aO]at h;obtain⟨rfl,rfl⟩:=h;obtain⟨d,i⟩:=Ph e s g;refine⟨d,fun ok=>?_⟩;obtain⟨p,vs,rfl,j,u,k,m⟩:=i ok;refine Does.pure e d (v:=.agg ⟨vs⟩) ?_ (aC.zW j);have x:vs.length=n:=by rw[←j.1,u]
     have:=Fo P w p vs k (by rw[←j.1,u];exact m);rw[x]at this;simp[Instr.loadAt,Instr.sureAddr,loadVar,vq c w,hJ f w,this]
  |false=>
   simp only[c]at h;obtain⟨d,i⟩:=Pg e s h;refine⟨d,fun ok=>?_⟩;obtain⟨p,v,rfl,k,y,m⟩:=i ok;refine Does.pure e d (v:=v) ?_ y;simp[Instr.loadAt,Instr.sureAddr,loadVar,vq c w,B2 P w k m]
def Data.Pk{d m:Data}(h:d.lf o Q S=some (m,T)):
 Pure S T∧m.len=d.len∧(T.ok→o.v<d.len∧∀{β:aE} {v:Value} {vs:List Value},aC β Q v→aK β d.list vs→aK β m.list (vs.set o.v v)):=by
 cases d with
 |gen l=>
  cases o with
  |s _=>simp[Data.lf]at h|c n=>
   simp only[Data.lf]at h;cases p:Nat.blt n l.length<;>simp[p]at h;obtain⟨rfl,rfl⟩:=h;rw[iN];refine⟨Pure.refl _,by simp[Data.len],fun _=>⟨by show n<l.length;simpa using p,fun i a=>?_⟩⟩;exact a.set i n
 |aj l=>
  simp only[Data.lf,bT,aO]at h;obtain⟨j,e,rfl,rfl⟩:=h;refine⟨gi _ _,rfl,fun k=>⟨bg (gp k),fun i a=>?_⟩⟩;cases Q<;>simp only[af.fE,reduceCtorEq]at e;have g:=i.num_inv;rw[bk.rV e]at g;subst g;simp only[Data.list,U.set]at a⊢;rw[HU];exact a.set (aC.oU (.bP j)) _
 |eX l=>
  simp only[Data.lf,bT,aO]at h;obtain⟨j,e,rfl,rfl⟩:=h;refine⟨gi _ _,rfl,fun k=>⟨bg (gp k),fun i a=>?_⟩⟩;cases Q<;>simp only[af.iu,reduceCtorEq]at e;have g:=i.num_inv;rw[bk.u5 e]at g;subst g;simp only[Data.list,U.set]at a⊢;rw[HU];exact a.set (aC.oU (.aF j)) _
 |bw l=>
  simp only[Data.lf,bT,aO]at h;obtain⟨j,e,rfl,rfl⟩:=h;refine⟨gi _ _,rfl,fun k=>⟨bg (gp k),fun i a=>?_⟩⟩;cases Q<;>simp only[af.fF,reduceCtorEq]at e;have g:=i.num_inv;rw[bk.oP e]at g;subst g;simp only[Data.list,U.set]at a⊢;rw[HU];exact a.set (aC.oU (.av j)) _
 |spot _ _ _=>simp[Data.lf]at h|e9 _ _=>simp[Data.lf]at h|lim f l=>
  simp only[Data.lf,bT,aO]at h;obtain⟨j,e,rfl,rfl⟩:=h;refine⟨(gi _ _).trans (gi _ _),rfl,fun k=>⟨bg (gp ((gi _ _).ok k)),fun i a=>?_⟩⟩;cases Q<;>simp only[af.fF,reduceCtorEq]at e;have g:=i.num_inv;rw[bk.oP e]at g;subst g;simp only[Data.list,U.set]at a⊢;rw[HU];exact a.set (aC.oU (.av j)) _
def Data.Yo{d c:Data}(h:d.Ep o Q S=some (c,T)):
 Pure S T∧c.len=d.len∧(T.ok→o.v<d.len∧∀{β:aE} {v:Value} {vs:List Value},aC β Q v→aK β d.list vs→aK β c.list (vs.set o.v v)):=by
 unfold Data.Ep at h;split at h
 ·rename_i m e;split at h
  ·rename_i a f;simp only[aD,aO]at h;obtain⟨rfl,rfl⟩:=h;refine⟨gi _ _,Pc e rfl,fun i=>?_⟩;have r:=bg (gp i);have s:=m.row.h;have u:=Fi e;refine⟨by omega,fun{β v vs} j p=>?_⟩;rw[I5 (show(m.row.set (o.v-m.pre.length) a).n=m.row.n from rfl)];cases Q<;>simp only[af.fE,reduceCtorEq]at f;have g:=j.num_inv;rw[bk.rV f]at g;subst g;have k:=(Pa e p).set (aC.oU (.bP a)) o.v;have q:(m.pre++(m.row.l.map af.bP++m.post)).set o.v (.bP a)=m.pre++((m.row.set (o.v-m.pre.length) a).l.map af.bP++m.post):=by
    rw[List.set_append_right _ _ (by omega),List.set_append_left _ _ (by rw[mA];omega),←HU];rfl
   rw[←q];exact k
  ·cases h
 ·cases h
def Data.Jd{d a:Data}(h:d.set o Q S=some (a,T)):
 Pure S T∧a.len=d.len∧(T.ok→o.v<d.len∧∀{β:aE} {v:Value} {vs:List Value},aC β Q v→aK β d.list vs→aK β a.list (vs.set o.v v)):=by
 unfold Data.set at h;split at h
 ·rename_i r e;cases h;exact Data.Pk e
 ·split at h
  ·rename_i d2 c;obtain⟨h1,h2,h3⟩:=Data.Pk h;refine⟨h1,h2.trans (zX c),fun ok=>?_⟩;obtain⟨f,g⟩:=h3 ok;exact⟨by rw[←zX c];exact f,fun i j=>g i (O7 c j)⟩
  ·exact Data.Yo h
def aK.over{us:List Value}(h:aK β l vs)(k:aK β R us)(o:Nat):aK β (ay.over l o R) (ay.over vs o us):=by
 unfold ay.over;rw[show o+R.length=o+us.length by rw[k.1]];exact((h.take o).append k).append (h.drop _)
def Cs(l:List V)(o:Nat)(R:List V)(h:o+R.length≤l.length):(ay.over l o R).length=l.length:=by simp[ay.over];omega
def Fp{a:Type}(f:V→a)(l:List V)(o:Nat)(R:List V):(ay.over l o R).map f=ay.over (l.map f) o (R.map f):=by simp[ay.over]
def xG{V:Type}:∀(R l:List V) (o:Nat),o+R.length≤l.length→rN l o R=ay.over l o R
 |[],l,o,_=>by simp[rN,ay.over]|Q::R,l,o,h=>by
  simp only[iW]at h;rw[rN,xG R _ _ (by rw[lJ];omega)];unfold ay.over;have a:(l.set o Q).take (o+1)=l.take o++[Q]:=by
   rw[V6,List.take_set_of_le (aV o),pL (by omega)];rfl
  have c:(l.set o Q).drop (o+1+R.length)=l.drop (o+1+R.length):=List.drop_set_of_lt (by omega);rw[a,c];simp[iD,Bi 1]
def Data.Pm{d k Q:Data}(h:d.ju o Q S=some (k,T)):
 Pure S T∧(T.ok→o.v+Q.len≤d.len∧k.len=d.len∧∀{β:aE} {us vs:List Value},aK β Q.list us→aK β d.list vs→aK β k.list (ay.over vs o.v us)):=by
 cases d with
 |gen l=>
  cases o with
  |s _=>simp[Data.ju]at h|c n=>
   cases Q<;>simp[Data.ju]at h;rename_i R;obtain⟨r,m,rfl,rfl⟩:=h;obtain⟨h1,rfl⟩:=Fb _ _ _ _ m;exact⟨Pure.refl _,fun _=>⟨h1,Cs l n R h1,fun f a=>aK.over a f n⟩⟩
 |aj l=>
  simp only[Data.ju,bT,aO]at h;obtain⟨R,e,rfl,rfl⟩:=h;refine⟨gi _ _,fun g=>?_⟩;have i:=bg (gp g);have j:Q.len=R.n:=(Co e).symm;have h1:=l.h;have h2:=R.h;refine⟨by rw[j];exact i,rfl,fun f a=>?_⟩;simp only[Data.list,U.over]at a⊢;rw[xG _ _ _ (by omega),Fp];exact aK.over a (Cp e f) _
 |eX l=>
  simp only[Data.ju,bT,aO]at h;obtain⟨R,e,rfl,rfl⟩:=h;refine⟨gi _ _,fun g=>?_⟩;have i:=bg (gp g);have j:Q.len=R.n:=(Fc e).symm;have h1:=l.h;have h2:=R.h;refine⟨by rw[j];exact i,rfl,fun f a=>?_⟩;simp only[Data.list,U.over]at a⊢;rw[xG _ _ _ (by omega),Fp];exact aK.over a (Ff e f) _
 |bw l=>
  simp only[Data.ju,bT,aO]at h;obtain⟨R,e,rfl,rfl⟩:=h;refine⟨gi _ _,fun g=>?_⟩;have i:=bg (gp g);have j:Q.len=R.n:=(Fe e).symm;have h1:=l.h;have h2:=R.h;refine⟨by rw[j];exact i,rfl,fun f a=>?_⟩;simp only[Data.list,U.over]at a⊢;rw[xG _ _ _ (by omega),Fp];exact aK.over a (Fg e f) _
 |spot _ _ _=>simp[Data.ju]at h|e9 _ _=>simp[Data.ju]at h|lim _ _=>simp[Data.ju]at h
def Data.Yp{d a Q:Data}(h:d.BF o Q S=some (a,T)):
 Pure S T∧(T.ok→o.v+Q.len≤d.len∧a.len=d.len∧∀{β:aE} {us vs:List Value},aK β Q.list us→aK β d.list vs→aK β a.list (ay.over vs o.v us)):=by
 unfold Data.BF at h;split at h
 ·rename_i m c;split at h
  ·rename_i R e;simp only[aD,aO]at h;obtain⟨rfl,rfl⟩:=h;refine⟨gi _ _,fun f=>?_⟩;have r:=bg (gp f);have s:=m.row.h;have u:=R.h;have x:=Fi c;have y:Q.len=R.n:=(Co e).symm;refine⟨by omega,Pc c rfl,fun{β us vs} g i=>?_⟩;rw[I5 (show(m.row.over (o.v-m.pre.length) R).n=m.row.n from rfl)];have k:=aK.over (Pa c i) (Cp e g) o.v;have j:ay.over (m.pre++(m.row.l.map af.bP++m.post)) o.v (R.l.map af.bP)=m.pre++((m.row.over (o.v-m.pre.length) R).l.map af.bP++m.post):=by
    show _=m.pre++((rN m.row.l (o.v-m.pre.length) R.l).map af.bP++m.post);rw[xG _ _ _ (by omega),Fp];unfold ay.over;simp only[mA];rw[show o.v+R.l.length=m.pre.length+(o.v-m.pre.length+R.l.length) by omega];have p:o.v=m.pre.length+(o.v-m.pre.length):=by omega
    generalize o.v-m.pre.length=q at *;rw[p,List.take_append,List.take_append,List.drop_append,List.drop_append];simp only[uF,mA];rw[qy (l:=m.pre) (by omega),anX (l:=m.pre) (by omega),show q-m.row.l.length=0 by omega,show q+R.l.length-m.row.l.length=0 by omega];simp
   rw[←j];exact k
  ·cases h
 ·cases h
def Data.pY{d a Q:Data}(h:d.over o Q S=some (a,T)):
 Pure S T∧(T.ok→o.v+Q.len≤d.len∧a.len=d.len∧∀{β:aE} {us vs:List Value},aK β Q.list us→aK β d.list vs→aK β a.list (ay.over vs o.v us)):=by
 unfold Data.over at h;split at h
 ·rename_i r e;cases h;exact Data.Pm e
 ·split at h
  ·rename_i d2 c;obtain⟨h1,h3⟩:=Data.Pm h;refine⟨h1,fun ok=>?_⟩;obtain⟨f,g,i⟩:=h3 ok;exact⟨by rw[←zX c];exact f,g.trans (zX c),fun j k=>i j (O7 c k)⟩
  ·exact Data.Yp h
def Pure.tF{d:Data}(a:Pure S T)(h:T.write b d=some W):W.ok→S.ok:=by
 obtain⟨_,_,_,_,c,_⟩:=ai.zY h;intro o;exact a.ok fun Q e=>o Q (by rw[c];exact e)
def zZ{d:Data}(h:T.write b d=some W):W.ok→T.ok:=by
 obtain⟨_,_,_,_,a,_⟩:=ai.zY h;exact fun o Q c=>o Q (by rw[a];exact c)
def Ct(d a:Data)(o n:Nat):Prop:=(∀c,fI d c→fI a c)∧∀c,fI d c→∀k,o≤k→k<o+n→gh (at' c k) true
def Ct.full{d e:Data}(h:d.full)(f:e.full)(o n:Nat):Ct d e o n:=⟨fun c a=>.of (a.tD h) f,fun c a k _ _=>(a.tD h).rT k true⟩
def Fq{d:Data}{m:uM}(h:d.mid=some m):d.full:=by cases d<;>first|(simp[Data.mid]at h;done)|(intro f l a;cases a)
def z0{d a:Data}(h:d.words=some a):d.full∧a.full:=by
 cases d<;>simp only[Data.words,reduceCtorEq]at h;refine⟨lU _,?_⟩
 repeat' split at h
 all_goals first|(cases h;done)|(cases h;intro f l c;cases c)
def Pn{d a:Data}(h:d.lf o Q S=some (a,T))(c:d.full):a.full:=by
 cases d with
 |lim f l=>exact absurd rfl (c _ _)|gen l=>
  cases o<;>simp only[Data.lf,reduceCtorEq]at h;split at h
  ·injection h with h;cases h;exact lU _
  ·cases h
 |spot _ _ _=>simp[Data.lf]at h|e9 _ _=>simp[Data.lf]at h|_=>
  simp only[Data.lf,bT,aO]at h;obtain⟨g,_,rfl,_⟩:=h;intro f l e;cases e
def Yq{d i:Data}(h:d.set o Q S=some (i,T))(ok:T.ok):Ct d i o.v 1:=by
 unfold Data.set at h;split at h
 ·rename_i r g;cases h;by_cases a:d.full
  ·exact .full a (Pn g a) _ _
  ·cases d with
   |lim f l=>
    simp only[Data.lf,bT,aO]at g;obtain⟨q,_,rfl,rfl⟩:=g;refine⟨fun c e=>e,fun c e k h1 h2=>⟨rfl,.inl ⟨e.1,fun _=>?_⟩⟩⟩;obtain rfl:k=o.v:=by omega
    rw[←e.2];exact gp ok
   |_=>exact absurd (fun f l j=>(by cases j)) a
 ·split at h
  ·rename_i d2 a;exact .full (z0 a).1 (Pn h (z0 a).2) _ _
  ·unfold Data.Ep at h;split at h
   ·rename_i m p;split at h
    ·simp only[aD,aO]at h;obtain⟨rfl,_⟩:=h;exact .full (Fq p) (lU _) _ _
    ·cases h
   ·cases h
def Po{d e Q:Data}(h:d.ju o Q S=some (e,T)):d.full∧e.full:=by
 cases d with
 |gen l=>
  cases o with
  |s _=>simp[Data.ju]at h|c n=>
   cases Q<;>simp[Data.ju]at h;obtain⟨r,_,rfl,_⟩:=h;exact⟨lU _,lU _⟩
 |spot _ _ _=>simp[Data.ju]at h|e9 _ _=>simp[Data.ju]at h|lim _ _=>simp[Data.ju]at h|_=>
  simp only[Data.ju,bT,aO]at h;obtain⟨g,_,rfl,_⟩:=h;exact⟨fun f l a=>(by cases a),fun f l a=>(by cases a)⟩
def Fr{d a Q:Data}(h:d.over o Q S=some (a,T)):d.full∧a.full:=by
 unfold Data.over at h;split at h
 ·rename_i r c;cases h;exact Po c
 ·split at h
  ·rename_i d2 e;exact⟨(z0 e).1,(Po h).2⟩
  ·unfold Data.BF at h;split at h
   ·rename_i m f;split at h
    ·simp only[aD,aO]at h;obtain⟨rfl,_⟩:=h;exact⟨Fq f,lU _⟩
    ·cases h
   ·cases h
def Fs{d a Q:Data}(h:d.over o Q S=some (a,T))(n:Nat):Ct d a o.v n:=.full (Fr h).1 (Fr h).2 _ _
def Cu{q r:ai}{d e:Data}{o:Nat}{a:Loc}{us:List Value}(s:aM G β S.H w)(g:Pure S q)(E:S.read b=some d)(F:q.write b e=some r)
 (h:β b=some a) (ae:o+us.length≤d.len) (I:e.len=d.len) (J:∀{vs:List Value},aK β d.list vs→aK β e.list (ay.over vs o us)) (h1:∀v∈us,v.oneCell'=true) (u:Ct d e o us.length):
 Ja P G β S w (storeCells (at' a.c (a.base+o)) us) r:=by
 obtain⟨ag,x,y,_,_,_⟩:=ai.zY F;obtain⟨m,j,K⟩:=ai.r9 E;rw[g.H,j]at x;injection x with f;injection f with L p;subst L p;have M:r8 β d a w:=by
  rcases s.blk b _ j K with⟨ah,z,O⟩|⟨_,A⟩
  ·rw[h]at z;injection z with f;subst f;exact O
  ·rw[h]at A;cases A
 obtain⟨U,B,vs,t,bx,X,Y,Z,aj,aa⟩:=M;have C:=Fl P a.c o t bx us 0 ⟨vs⟩ w X Y (by simp;omega) h1 (fun k h1 h2=>u.2 _ B k (by omega) (by omega));simp only[gb]at C;have f:at' a.c (a.base+o)=⟨a.c,o,none⟩:=by simp[at',U]
 have ak:(vs.take o++us++vs.drop (o+us.length))=ay.over vs o us:=rfl;have ab:(ay.over vs o us).length=a.room:=by rw[Cs _ _ _ (by omega),Z]
 have ad:aK β e.list ((ay.over vs o us).take e.len):=by
  have:=J aa;have p:ay.over (vs.take d.len) o us=(ay.over vs o us).take e.len:=by
   rw[I];apply wX;intro i;simp only[ay.over,List.getElem?_append,lM,s8,fB,pM]
   repeat' split
   all_goals first|rfl|omega|(congr 1;omega)|skip
   all_goals(try simp_all)
   all_goals(try omega)
  rw[←p];exact this
 have D:=s.write j h (ay.over vs o us) ab (by omega) ad u.1;refine⟨w.setRow a.c ⟨ay.over vs o us⟩,?_,I7 w B.mine _,fun _=>⟨β,?_,?_⟩⟩
 ·rw[f];rw[C];rfl
 ·rw[y,g.H];exact D.1
 ·rw[y,g.H];exact D.2
end
end
section
variable [aR][aG]
variable{S Q:ai}{t:TypeId}{R:Value}{v:Option Value}{z l h m:Z}{d:N}
section
variable{P:Program}{G:Nat→Option (List af)}{β:aE}{w:World}
def Yr{a x:af}{c:Value}(h:zh P t a x S=some Q)(D:aC β a R)(k:aC β x c)(y:aM G β S.H w):
 (Q.ok→S.ok)∧(Q.ok→Ja P G β S w (Instr.storeAt t R c) Q):=by
 unfold zh at h;split at h
 case h_2=>cases h
 rename_i b o;obtain⟨W,A,rfl⟩:=D.qK;cases f:S.read b with
 |none=>simp[f]at h|some d=>
  simp only[f]at h;cases g:eg P t with
  |none=>simp[g]at h|some n=>
   simp only[g]at h;split at h
   ·rename_i E;obtain⟨vs,rfl,i⟩:=k.xD;split at h
    case h_2=>cases h
    rename_i p;simp only[dI]at p;have q:E.length=n:=by simpa using p.1
    split at h
    case h_2=>cases h
    rename_i F I B;obtain⟨e,r⟩:=Data.pY B;refine⟨e.tF h,fun ok=>?_⟩;obtain⟨h1,h2,h3⟩:=r (zZ h ok);have:=Cu (P:=P) (us:=vs) y e f h A (by rw[←i.1];exact h1) h2 (fun j=>h3 i j) (Pj p.2 i) (Fs B _);obtain⟨w',h4,s,u⟩:=this;refine⟨w',?_,s,u⟩;have J:¬(vs.length≠n):=by rw[←i.1,q];simp
    simp[Instr.storeAt,Instr.sureAddr,storeVar,hJ g w,Value.cells,J,h4]
   ·split at h
    case h_2=>cases h
    rename_i K;split at h
    case h_2=>cases h
    rename_i L;split at h
    case h_2=>cases h
    rename_i F I C;obtain⟨e,M,r⟩:=Data.Jd C;refine⟨e.tF h,fun ok=>?_⟩;obtain⟨h1,h2⟩:=r (zZ h ok);obtain⟨O,T⟩:=Jb K k;have U:∀vs:List Value,o.v<vs.length→ay.over vs o.v [c]=vs.set o.v c:=by
     intro vs V;simp only[ay.over,iW,kI];rw[List.set_eq_take_append_cons_drop,ax V];simp
    have:=Cu (P:=P) (us:=[c]) (o:=o.v) y e f h A (by show o.v+1≤d.len;omega) M
     (fun{vs} j=>by rw[U vs (by rw[←j.1,Data.jx];exact h1)];exact h2 k j) (by simpa using O) (Yq C (zZ h ok))
    obtain⟨w',h4,s,u⟩:=this;refine⟨w',?_,s,u⟩;have q:n=1:=by simpa using L
    simp[Instr.storeAt,Instr.sureAddr,storeVar,hJ g w,T,q,h4]
def af.vr{a:af}{v:Value}(h:a.bF=some z)(b:aC β a v):∃k,v=.int k z.v:=by
 cases a<;>simp[af.bF]at h;rename_i n;subst h;exact⟨n.k,b.num_inv⟩
def z3(h:(jM z l).cj S=some Q):Pure S Q∧(Q.ok→0≤z.v∧z.v<l.v):=by
 obtain⟨a,b⟩:=B.fT h;refine⟨a,fun ok=>?_⟩;have:=b ok;rw[jM,B.uZ,Z.jO,Z.IA,dI]at this;exact⟨bg this.1,bg this.2⟩
def Ft(c base a i b:Nat):(at' c (base+a)).add (i*b)=at' c (base+(a+i*b)):=by rw[oV,iD]
def Ys{a i J:af}{K:Value}(h:zj P t a i S=some (J,Q))(u:aC β a R)(hi:aC β i K)(x:aM G β S.H w):
 Pure S Q∧(Q.ok→Does P G β S w (Instr.indexAt t R K) J Q):=by
 unfold zj at h;cases C:i.bF with
 |none=>simp[C]at h|some z=>
  simp only[C]at h;obtain⟨k,rfl⟩:=af.vr C hi;split at h
  ·rename_i n D q;cases o:eg P D with
   |none=>simp[o]at h|some r=>
    simp only[o]at h;cases e:(jM z (.c n)).cj S with
    |none=>simp[e]at h|some E=>
     simp only[e]at h;obtain⟨f,p⟩:=z3 e;have s:∀j:N,(j.add (z.toN.ir r)).v=j.v+z.v.toNat*r:=fun j=>by rw[N.gM,N.u0,Z.toN_v]
     split at h
     ·rename_i b j;obtain⟨rfl,rfl⟩:_∧_:=by simpa using h
      refine⟨f,fun ok=>?_⟩;obtain⟨h1,h2⟩:=p ok;obtain⟨y,A,rfl⟩:=u.qK;refine Does.pure x f ?_ (.ptr b _ y A);have F:z.v<(n:Int):=h2;simp[Instr.indexAt,cN q,Instr.sureAddr,asIntOf,hJ o w,h1,F,Ft,s]
     ·rename_i g j;obtain⟨rfl,rfl⟩:_∧_:=by simpa using h
      refine⟨f,fun ok=>?_⟩;obtain⟨h1,h2⟩:=p ok;rw[u.Cm];refine Does.pure x f ?_ (.eC g _);have F:z.v<(n:Int):=h2;simp[Instr.indexAt,cN q,Instr.sureAddr,asIntOf,hJ o w,h1,F,Cq,s]
     ·cases h
  ·rename_i D q;cases o:eg P D with
   |none=>simp[o]at h|some r=>
    simp only[o]at h;have s:∀j:N,(j.add (z.toN.ir r)).v=j.v+z.v.toNat*r:=fun j=>by rw[N.gM,N.u0,Z.toN_v]
    split at h
    case h_4=>cases h
    case h_3=>
     rename_i b l O;split at h
     case h_2=>cases h
     rename_i I;have I:O=r:=by simpa using I
     subst I;cases e:(jM z l.toZ).cj S with
     |none=>simp[e]at h|some E=>
      simp only[e,aD,aO]at h;obtain⟨rfl,rfl⟩:=h;obtain⟨f,p⟩:=z3 e;refine⟨f,fun ok=>?_⟩;obtain⟨h1,h2⟩:=p ok;rw[N.toZ_v]at h2;obtain⟨a,L,rfl,M,B⟩:=u.Cl;rcases B with B|⟨y,A,rfl,bf⟩
      ·omega
      ·refine Does.pure x f ?_ (.ptr b _ y A);have T:(N.c 0).v=0:=rfl;simp[Instr.indexAt,cN q,asIntOf,hJ o w,h1,h2,Ft,s,T,oV]
    case h_2=>
     rename_i g j l;cases e:(jM z l.toZ).cj S with
     |none=>simp[e]at h|some E=>
      simp only[e,aD,aO]at h;obtain⟨rfl,rfl⟩:=h;obtain⟨f,p⟩:=z3 e;refine⟨f,fun ok=>?_⟩;obtain⟨h1,h2⟩:=p ok;rw[N.toZ_v]at h2;obtain⟨L,rfl,M⟩:=u.O2;refine Does.pure x f ?_ (.eC g _);simp[Instr.indexAt,cN q,asIntOf,hJ o w,h1,h2,Cq,s]
    rename_i b j l U;cases e:(jM z l.toZ).cj S with
    |none=>simp[e]at h|some E=>
     simp only[e,aD,aO]at h;obtain⟨rfl,rfl⟩:=h;obtain⟨f,p⟩:=z3 e;refine⟨f,fun ok=>?_⟩;obtain⟨h1,h2⟩:=p ok;rw[N.toZ_v]at h2;obtain⟨a,L,rfl,M,V,B⟩:=u.pW;rcases B with B|⟨y,A,rfl,bf⟩
     ·omega
     ·refine Does.pure x f ?_ (.ptr b _ y A);simp[Instr.indexAt,cN q,asIntOf,hJ o w,h1,h2,Ft,s]
  ·cases h
def Yt{a e:af}{f:Nat}(h:Ik P t a f=some e)(g:aC β a R)(i:aM G β S.H w):
 Does P G β S w (Instr.fieldAt t R f) e S:=by
 unfold Ik at h;split at h
 case h_2=>cases h
 rename_i fields j;rw[cg]at h;cases c:fields.toList[f]? with
 |none=>simp[c]at h|some p=>
  simp only[c]at h;have k:fields[f]? =some p:=by simpa using c
  split at h
  case h_1=>cases h
  case h_3=>cases h
  rename_i q r n;have o:¬q=0:=fun s=>r s;split at h
  ·rename_i b u;cases h;obtain⟨x,y,rfl⟩:=g.qK;refine Does.pure i (Pure.refl _) ?_ (.ptr b _ x y);simp[Instr.fieldAt,cN j,k,Instr.sureAddr,fieldPlace,hJ n w,o,oV,iD];rw[N.gM];rfl
  ·rename_i b u;cases h;rw[g.Cm];refine Does.pure i (Pure.refl _) ?_ (.eC b _);simp[Instr.fieldAt,cN j,k,Instr.sureAddr,fieldPlace,hJ n w,o,Cq];rw[N.gM];rfl
  ·cases h
def mU(β:aE)(a:Option af)(v:Option Value):Prop:=
 match a,v with
 |none,none=>True|some a,some v=>aC β a v|_,_=>False
def z4(a:(gY l h m).cj S=some Q):Pure S Q∧(Q.ok→0≤l.v∧l.v≤h.v∧h.v≤m.v):=by
 obtain⟨b,c⟩:=B.fT a;refine⟨b,fun ok=>?_⟩;have:=c ok;rw[gY,B.uZ,B.uZ,Z.jO,Z.jO,Z.jO,dI,dI]at this;exact⟨bg this.1.1,bg this.1.2,bg this.2⟩
def xH{a:Option af}(h:bound a d=some z)(b:mU β a v):(v=none∧z.v=(d.v:Int))∨∃k,v=some (.int k z.v):=by
 cases a with
 |none=>
  cases v with
  |none=>simp[bound]at h;subst h;exact .inl ⟨rfl,N.toZ_v d⟩|some v=>exact absurd b (by simp[mU])
 |some a=>
  cases v with
  |none=>exact absurd b (by simp[mU])|some v=>
   obtain⟨k,rfl⟩:=af.vr h b;exact .inr ⟨k,rfl⟩
def run_sliceBound{k:IntKind}{i:Int}{a:Nat}{c:BoundsCode}(h1:0≤i)(h2:i≤a):(Instr.sliceBound (.int k i) a c).aI P w=.ok i.toNat w:=by
 simp[Instr.sliceBound,asIntOf,h1,h2]
def Cv{z5:Bool}{len cap:Nat}{lo hi mx:Option Value}{l h m:Int}
 (f:(mx=none∧m=cap)∨∃k,mx=some (.int k m)) (e:(hi=none∧h=len∧mx=none)∨∃k,hi=some (.int k h)) (b:(lo=none∧l=0)∨∃k,lo=some (.int k l))
 (g:0≤l) (p:l≤h) (q:h≤m) (i:m≤cap):(Instr.sliceBounds z5 len cap lo hi mx).aI P w=.ok (l.toNat,h.toNat,m.toNat) w:=by
 have r:(h.toNat:Int)=h:=D9 (by omega);have s:(m.toNat:Int)=m:=D9 (by omega);have j:∀k c,(Instr.sliceBound (.int k m) cap c).aI P w=.ok m.toNat w:=fun k c=>run_sliceBound (by omega) i;have cr:∀k c,(Instr.sliceBound (.int k h) m.toNat c).aI P w=.ok h.toNat w:=fun k c=>run_sliceBound (by omega) (by omega);have a:∀k c,(Instr.sliceBound (.int k l) h.toNat c).aI P w=.ok l.toNat w:=fun k c=>run_sliceBound g (by omega);rcases f with⟨rfl,rfl⟩|⟨u,rfl⟩
 ·simp only[eA]at cr⊢;rcases e with⟨rfl,rfl,_⟩|⟨n,rfl⟩
  ·simp only[eA]at a⊢;rcases b with⟨rfl,rfl⟩|⟨kl,rfl⟩<;>simp[Instr.sliceBounds,a]
  ·rcases b with⟨rfl,rfl⟩|⟨kl,rfl⟩<;>simp[Instr.sliceBounds,a,cr]
 ·rcases e with⟨rfl,rfl,o⟩|⟨n,rfl⟩
  ·cases o
  ·rcases b with⟨rfl,rfl⟩|⟨kl,rfl⟩<;>simp[Instr.sliceBounds,a,cr,j]
def Fu{a:Option af}(h:bound a d=some z)(b:mU β a v):(v=none∧z.v=(d.v:Int)∧(none:Option Value)=none)∨∃k,v=some (.int k z.v):=by
 rcases xH h b with⟨h1,h2⟩|h1
 ·exact .inl ⟨h1,h2,rfl⟩
 ·exact .inr h1
def mU.Fv(h:mU β none v):v=none:=by cases v<;>simp[mU]at h;rfl
def mU.Yu{a:af}(h:mU β (some a) v):∃u,v=some u∧aC β a u:=by
 cases v with
 |none=>simp[mU]at h|some u=>exact⟨u,rfl,h⟩
def Je{b:Nat}{o len:N}{cap cap':Option N}{a:Option Addr}{c5:Nat}(f:c5=0∨∃e,β b=some e∧a=some (at' e.c (e.base+o.v))∧o.v+c5≤e.room)
 (n:0≤l.v) (p:l.v≤h.v) (q:h.v≤m.v) (r:m.v≤c5) (i:∀C,cap'=some C→C.v=m.v.toNat-l.v.toNat):
 aC β (.ref (.sl b (o.add l.toN) (h.toN.sub l.toN) cap')) (.slice (if m.v.toNat=l.v.toNat then a else a.map (·.add (l.v.toNat*1))) (h.v.toNat-l.v.toNat) (m.v.toNat-l.v.toNat)):=by
 have g:h.v.toNat-l.v.toNat=(h.toN.sub l.toN).v:=by rw[N.B6,Z.toN_v,Z.toN_v]
 rw[g];refine .sl b _ _ cap' _ _ (by rw[←g];omega) i ?_;by_cases j:m.v.toNat=l.v.toNat
 ·exact .inl (by omega)
 ·right;rcases f with f|⟨e,k,rfl,bf⟩
  ·omega
  ·refine⟨e,k,?_,?_⟩
   ·rw[ak j,N.gM,Z.toN_v];simp[oV,iD]
   ·rw[N.gM,Z.toN_v];omega
def Yv{a ae:af}{lo hi mx:Option af}{D F ag:Option Value}(h:xb P t a lo hi mx S=some (ae,Q))(Y:aC β a R)
 (O:mU β lo D) (I:mU β hi F) (T:mU β mx ag) (J:aM G β S.H w):
 Pure S Q∧(Q.ok→Does P G β S w (Instr.sliceAt t R D F ag) ae Q):=by
 unfold xb at h;split at h
 ·rename_i n K L;split at h
  case h_2=>cases h
  rename_i b o;split at h
  case h_1=>cases h
  case h_3=>cases h
  ·rename_i y an E;have aF:¬y=0:=fun K=>an K;obtain⟨U,ah,rfl⟩:=Y.qK;unfold zk at h;cases g:bound lo (.c 0)with
   |none=>simp[g]at h|some l=>
    cases p:bound hi (.c n)with
    |none=>simp[g,p]at h|some e=>
     simp only[g,p]at h;cases mx with
     |some _=>simp at h|none=>
      obtain rfl:=T.Fv;simp only at h;cases A:S.read b with
      |none=>simp[A]at h|some d=>
       simp only[A]at h;cases aa:((o.add (.c (n*y))).le d.js).cj S with
       |none=>simp[aa]at h|some ao=>
        simp only[aa]at h;obtain⟨aj,ap⟩:=B.fT aa;cases f:(gY l e (.c n)).cj ao with
        |none=>simp[f]at h|some W=>
         simp only[f,aD,aO]at h;obtain⟨rfl,rfl⟩:=h;obtain⟨i,u⟩:=z4 f;refine⟨aj.trans i,fun ok=>?_⟩;obtain⟨j,k,q⟩:=u ok;have aq:e.v≤(n:Int):=q;have X:=ap (i.ok ok);rw[N.jO,N.gM]at X;have X:o.v+n*y≤d.len:=by
          have ar:d.js.v=d.len:=by cases d<;>rfl
          rw[ar]at X;exact bg X
         obtain⟨m,au,M⟩:=ai.r9 A;have av:=J.room au M ah;simp only at av;have x:=Cv (P:=P) (w:=w) (z5:=false) (len:=n) (cap:=n) (lo:=D) (hi:=F) (mx:=none) (l:=l.v) (h:=e.v) (m:=n) (.inl ⟨rfl,rfl⟩)
          (Fu p I) (xH g O) j k aq (rM _)
         simp only[eA]at x;have K:e.v.toNat-l.v.toNat=(e.toN.sub l.toN).v:=by rw[N.B6,Z.toN_v,Z.toN_v]
         have aH:l.v.toNat≤n:=by omega
         refine Does.pure J (aj.trans i) (v:=.slice (some (if n=l.v.toNat then at' U.c (U.base+o.v)else(at' U.c (U.base+o.v)).add (l.v.toNat*y))) (e.toN.sub l.toN).v (n-l.v.toNat)) ?_ ?_
         ·simp[Instr.sliceAt,cN L,Instr.sureAddr,x,hJ E w,K]
         ·refine .sl b _ _ _ _ _ (by rw[←K];omega) (by intro C r;injection r with r;subst r;rw[N.B6,Z.toN_v];rfl) ?_;by_cases aw:n=l.v.toNat
          ·exact .inl (by omega)
          ·refine .inr ⟨U,ah,?_,?_⟩
           ·rw[ak aw,Ft,N.gM,N.u0,Z.toN_v]
           ·rw[N.gM,N.u0,Z.toN_v]
            ·have:l.v.toNat*y+(n-l.v.toNat)≤n*y:=by
              have h1:(n-l.v.toNat)≤(n-l.v.toNat)*y:=Ee _ (by omega);have h2:l.v.toNat*y+(n-l.v.toNat)*y=n*y:=by rw[←Bj];congr 1;omega
              omega
             omega
 ·rename_i K L;split at h
  ·rename_i b o len cap;split at h
   case h_2=>cases h
   rename_i E;obtain⟨a,c5,rfl,aI,ax,ab⟩:=Y.pW;unfold BG at h;cases g:bound lo (.c 0)with
   |none=>simp[g]at h|some l=>
    cases p:bound hi len with
    |none=>simp[g,p]at h|some e=>
     simp only[g,p]at h;cases cap with
     |none=>
      cases mx with
      |some _=>simp at h|none=>
       obtain rfl:=T.Fv;simp only at h;cases f:(gY l e len.toZ).cj S with
       |none=>simp[f]at h|some W=>
        simp only[f,aD,aO]at h;obtain⟨rfl,rfl⟩:=h;obtain⟨i,u⟩:=z4 f;refine⟨i,fun ok=>?_⟩;obtain⟨j,k,q⟩:=u ok;rw[N.toZ_v]at q;have x:=Cv (P:=P) (w:=w) (z5:=true) (len:=len.v) (cap:=c5) (lo:=D) (hi:=F) (mx:=none) (l:=l.v) (h:=e.v) (m:=c5) (.inl ⟨rfl,rfl⟩)
         (Fu p I) (xH g O) j k (by omega) (rM _)
        have A:=Je (β:=β) (b:=b) (o:=o) (len:=len) (cap:=none) (cap':=none) (a:=a) (c5:=c5) (l:=l) (h:=e) (m:=.s c5) ab j k (by show e.v≤(c5:Int);omega) (rM _) (fun C r=>by cases r);refine Does.pure J i ?_ A;simp[Instr.sliceAt,cN L,Instr.slice,x,hJ E w,Z.v]
     |some c=>
      have ad:=ax c rfl;cases mx with
      |none=>
       obtain rfl:=T.Fv;simp only at h;cases f:(gY l e c.toZ).cj S with
       |none=>simp[f]at h|some W=>
        simp only[f,aD,aO]at h;obtain⟨rfl,rfl⟩:=h;obtain⟨i,u⟩:=z4 f;refine⟨i,fun ok=>?_⟩;obtain⟨j,k,q⟩:=u ok;rw[N.toZ_v,ad]at q;have x:=Cv (P:=P) (w:=w) (z5:=true) (len:=len.v) (cap:=c5) (lo:=D) (hi:=F) (mx:=none) (l:=l.v) (h:=e.v) (m:=c5) (.inl ⟨rfl,rfl⟩)
         (Fu p I) (xH g O) j k (by omega) (rM _)
        have A:=Je (β:=β) (b:=b) (o:=o) (len:=len) (cap:=none) (cap':=some (c.sub l.toN)) (a:=a) (c5:=c5) (l:=l) (h:=e) (m:=.s c5) ab j k (by show e.v≤(c5:Int);omega) (rM _)
         (fun C r=>by injection r with r;subst r;rw[N.B6,Z.toN_v,ad];rfl)
        refine Does.pure J i ?_ A;simp[Instr.sliceAt,cN L,Instr.slice,x,hJ E w,Z.v]
      |some ay=>
       obtain⟨aJ,rfl,az⟩:=T.Yu;simp only at h;cases M:ay.bF with
       |none=>simp[M]at h|some m=>
        cases hi with
        |none=>simp[M]at h|some aK=>
        simp only[M]at h;obtain⟨al,rfl⟩:=af.vr M az;cases f:(B.and (gY l e m) (m.le c.toZ)).cj S with
        |none=>simp[f]at h|some W=>
         simp only[f,aD,aO]at h;obtain⟨rfl,rfl⟩:=h;obtain⟨i,u⟩:=B.fT f;refine⟨i,fun ok=>?_⟩;have u:=u ok;rw[B.uZ,gY,B.uZ,B.uZ,Z.jO,Z.jO,Z.jO,Z.jO,dI,dI,dI]at u;obtain⟨⟨⟨j,k⟩,q⟩,V⟩:=u;have j:0≤l.v:=bg j;have k:=bg k;have q:=bg q;have V:=bg V;rw[N.toZ_v,ad]at V;rcases xH p I with⟨rfl,_⟩|⟨am,rfl⟩
         ·simp[mU]at I
         ·have x:=Cv (P:=P) (w:=w) (z5:=true) (len:=len.v) (cap:=c5) (lo:=D) (hi:=some (.int am e.v)) (mx:=some (.int al m.v)) (l:=l.v) (h:=e.v) (m:=m.v) (.inr ⟨al,rfl⟩)
           (.inr ⟨am,rfl⟩) (xH g O) j k q V
          have A:=Je (β:=β) (b:=b) (o:=o) (len:=len) (cap:=none) (cap':=some (m.toN.sub l.toN)) (a:=a) (c5:=c5) (l:=l) (h:=e) (m:=m) ab j k q V
           (fun C r=>by injection r with r;subst r;rw[N.B6,Z.toN_v,Z.toN_v])
          refine Does.pure J i ?_ A;simp[Instr.sliceAt,cN L,Instr.slice,x,hJ E w]
  ·split at h
   ·cases h
   ·cases h
   rename_i E;obtain rfl:=T.Fv;cases g:bound lo (.c 0)with
   |none=>simp[g]at h|some l=>
    cases p:bound hi (.c 0)with
    |none=>simp[g,p]at h|some e=>
     simp only[g,p]at h;cases f:(gY l e (.c 0)).cj S with
     |none=>simp[f]at h|some W=>
      simp only[f,aD,aO]at h;obtain⟨rfl,rfl⟩:=h;obtain⟨i,u⟩:=z4 f;refine⟨i,fun ok=>?_⟩;obtain⟨j,k,q⟩:=u ok;have q:e.v≤0:=q;cases Y;have x:=Cv (P:=P) (w:=w) (z5:=true) (len:=0) (cap:=0) (lo:=D) (hi:=F) (mx:=none) (l:=l.v) (h:=e.v) (m:=0) (.inl ⟨rfl,rfl⟩)
       (Fu p I) (xH g O) j k (by omega) (rM _)
      have aA:l.v.toNat=0:=by omega
      have aB:e.v.toNat=0:=by omega
      refine Does.pure J i ?_ .cD;rw[aA,aB]at x;simp only[HV]at x;simp[Instr.sliceAt,cN L,Instr.slice,x,hJ E w]
  ·cases h
 ·cases h
end
end
section
variable [aR][aG]
variable{S:ai}{t:TypeId}{R:af}{T:ai}{l c:af}{V W:Value}{d:Data}{vs:List Value}{Q:TypeId}{n:N}
section
variable{P:Program}{G:Nat→Option (List af)}{β:aE}{w:World}
def tG{l:List af}(h:mH P t=some l)(β:aE):∃i z,P.info? t=some i∧i.zero=some z∧aK β l z.cells.toList∧l.length=i.size∧z.cells.size=i.size:=by
 unfold mH at h;cases hi:P.info? t with
 |none=>simp[hi]at h|some i=>
  simp only[hi]at h;cases a:i.zero with
  |none=>simp[a]at h|some z=>
   simp only[a]at h;cases b:(w7 z).row with
   |none=>simp[b]at h|some e=>
    simp only[b]at h;cases f:Nat.beq e.length i.size<;>simp[f]at h;subst h;have g:=Jc b (IY β z);have Q:e.length=i.size:=by simpa using f
    exact⟨i,z,rfl,a,g,Q,by rw[←Q,g.1];simp⟩
def Pp{l:List af}{z:Array Value}(h:aK β l z.toList)(n:Nat):aK β (List.replicate n l).flatten (madeCells z (n*z.size)).toList:=by
 have Q:(madeCells z (n*z.size)).toList=(List.replicate n z.toList).flatten:=by
  have f:z.size=z.toList.length:=by simp
  simp only[madeCells,Array.toList_map,Array.toList_range];apply wX;intro j;rcases qx z.size with b|b
  ·have:z.toList=[]:=Bh (by simpa using b);simp[b,this]
  ·induction n generalizing j with
   |zero=>simp|succ n e=>
    rw[anW,V3];rcases cu j z.size with a|a
    ·rw[gV (by simpa using a)];have:j<(n+1)*z.size:=by rw[Bj];omega
     simp[this,a,dO a]
    ·have g:aK β (List.replicate n l).flatten ((List.replicate n z.toList).flatten):=h.replicate n;rw[gL (by simpa using a)];have:=e (j:=j-z.size);simp only[Ef]at this⊢;rw[←this];rcases cu j ((n+1)*z.size)with h1|h1
     ·have h2:j-z.size<n*z.size:=by rw[Bj]at h1;omega
      simp only[ef,HW h1,HW h2,ig];rw[V7 a]
     ·have h2:n*z.size≤j-z.size:=by rw[Bj]at h1;omega
      rw[dz (by simpa using h1),dz (by simpa using h2)]
 rw[Q];exact h.replicate n
def Jf(b:aM G β S.H w){l:List af}(t:TypeId)(a:aK β l vs)(e:oM w.heap.size):
 aM G (β.put S.H.length ⟨w.heap.size,0,vs.length⟩) (S.new (.gen l)).2.H (w.alloc (.cells ⟨vs⟩ t))∧
 bJ β S.H w (β.put S.H.length ⟨w.heap.size,0,vs.length⟩) (S.new (.gen l)).2.H (w.alloc (.cells ⟨vs⟩ t)):=
 b.new (.gen l) vs t (by simp[Data.len,a.1]) (by simp only[Data.len,Data.list];rw[a.1,V8];exact a) (.of e (lU l))
def Yw{C:eJ}(k:C.dA=G)(h:BQ C t S=some (R,T))(b:aM G β S.H w):
 (T.ok→S.ok)∧Does C.P G β S w (Instr.alloc t true (.tuple #[])) R T:=by
 unfold BQ at h;cases a:mH C.P t with
 |none=>simp[a]at h|some l=>
  simp only[a,aD,aO]at h;obtain⟨rfl,rfl⟩:=h;obtain⟨i,z,hi,e,f,m,o⟩:=tG a β;refine⟨fun g=>g,?_⟩;refine⟨.pointer (some (at' w.heap.size 0)),w.alloc (.cells z.cells t),?_,vo _ _,fun j=>⟨_,?_,Jf b t f (xE j)⟩⟩
  ·simp[Instr.alloc,zeroValue,typeInfo,hi,e,newVar,newRow,at']
  ·exact .ptr _ _ _ (aE.gq ..)
def Yx{b:af}{v:Value}(h:BR R S=some (b,T))(e:aC β R v)(f:aM G β S.H w):
 (T.ok→S.ok)∧Does P G β S w (Instr.box t v) b T:=by
 unfold BR at h;cases a:R.row with
 |none=>simp[a]at h|some l=>
  simp only[a,aD,aO]at h;obtain⟨rfl,rfl⟩:=h;have g:=Jc a e;refine⟨fun i=>i,?_⟩;refine⟨.pointer (some (at' w.heap.size 0)),w.alloc (.cells v.cells t),?_,vo _ _,fun j=>⟨_,?_,Jf f t g (xE j)⟩⟩
  ·simp[Instr.box,newVar,newRow,at']
  ·exact .ptr _ _ _ (aE.gq ..)
def Pq(h:xd P Q n=some d)(β:aE):∃i z,P.info? Q=some i∧i.zero=some z∧d.len=n.v*i.size∧aK β d.list (madeCells z.cells (n.v*i.size)).toList:=by
 cases n with
 |c n=>
  simp only[xd]at h;cases a:mH P Q with
  |none=>simp[a]at h|some l=>
   simp only[a,aD]at h;subst h;obtain⟨i,z,hi,e,f,g,q⟩:=tG a β;refine⟨i,z,hi,e,?_,?_⟩
   ·simp[Data.len,g,N.v]
   ·have:=Pp f n;rw[q]at this;exact this
 |s n=>
  simp only[xd]at h;split at h
  case h_2=>cases h
  rename_i C a;obtain⟨i,z,hi,e,f,g,q⟩:=tG a β;split at h
  case h_2=>cases h
  rename_i k y;split at h
  ·cases h
  rename_i b;rw[nv]at b;have b:y=0:=by simpa using b
  subst b;have r:i.size=1:=by simpa using g.symm
  obtain⟨v,vs,A,m,o⟩:=f.cons_inv;have o:=o.r7;subst o;have m:=m.num_inv;have B:z.cells=#[v]:=by
   apply j3;exact A
  refine⟨i,z,hi,e,?_,?_⟩
  ·rw[r];cases k<;>simp at h<;>subst h<;>simp[Data.len,N.v,U.zero]
  ·rw[r,B,y4,toList_madeCells_one,m];cases k<;>simp at h<;>subst h<;>refine⟨by simp[Data.list,N.v,U.zero],fun j R u x p=>?_⟩<;>
    simp only[Data.list,U.zero,ef,mz,N.v]at x p<;>split at p<;>simp_all<;>subst x p<;>first|exact .num (.bP 0#8)|exact .num (.aF 0#32)|exact .num (.av 0#64)
def Pr(b:aM G β S.H w)(t:TypeId)(a:aK β d.list vs)(e:oM w.heap.size)(f:d.full):
 aM G (β.put S.H.length ⟨w.heap.size,0,vs.length⟩) (S.new d).2.H (w.alloc (.cells ⟨vs⟩ t))∧
 bJ β S.H w (β.put S.H.length ⟨w.heap.size,0,vs.length⟩) (S.new d).2.H (w.alloc (.cells ⟨vs⟩ t)):=by
 have Q:d.len=vs.length:=by rw[←Data.jx,a.1]
 exact b.new d vs t (by omega) (by rw[Q,V8];exact a) (.of e f)
def Jg(P:Program)(w:World)(t Q:TypeId)(i:TypeInfo)(z:Value)(a:P.underlying t=some (.slice Q))(hi:P.info? Q=some i)(j:i.zero=some z)
 (kl k:IntKind) (l c:Int) (m:0≤l) (o:l≤c) (p:(i.bytes:Int)*c≤281474976710656) (q:c≤9223372036854775807):
 (Instr.makeSlice t (.int kl l) (.int k c)).aI P w=.ok (.slice (some ⟨w.heap.size,0,none⟩) l.toNat c.toNat) (w.alloc (.cells (madeCells z.cells (c.toNat*i.size)) Q)):=by
 have b:IntKind.i64.wrap l=l:=by rw[IntKind.wrap_i64];omega
 have Fw:IntKind.i64.wrap c=c:=by rw[IntKind.wrap_i64];omega
 have dB:¬c<0:=by omega
 have e:¬(281474976710656<(i.bytes:Int)*c):=by omega
 have f:¬l<0:=by omega
 have g:¬c<l:=by omega
 by_cases h:c.toNat*i.size=0
 ·simp[Instr.makeSlice,zC a,asInt,asIntOf,typeInfo,hi,sizeOf,b,Fw,dB,e,f,g,h,newRow,madeCells,Array.range_zero']
 ·simp[Instr.makeSlice,zC a,asInt,asIntOf,typeInfo,hi,sizeOf,zeroValue,j,b,Fw,dB,e,f,g,h,newRow,madeCells]
def Yy{P:Program}(h:xd P Q n=some d):d.full:=by
 unfold xd at h
 repeat' split at h
 all_goals first|(cases h;done)|(cases h;intro f l Q;cases Q)
def Pt(h:tf P t l c S=some (R,T))(E:aC β l V)(F:aC β c W):
 ∃e d n g,Pure S e∧T=(e.new d).2∧R=.ref (.sl e.H.length (.c 0) n (some g))∧(T.ok→∃vs Q,d.full∧(∀o,aK o d.list vs)∧(∀w:World,(Instr.makeSlice t V W).aI P w=.ok (.slice (some (at' w.heap.size 0)) n.v g.v) (w.alloc (.cells ⟨vs⟩ Q)))∧n.v≤g.v∧g.v≤vs.length):=by
 unfold tf at h;split at h
 case h_2=>cases h
 rename_i Q I;cases hi:P.info? Q with
 |none=>simp[hi]at h|some i=>
  simp only[hi]at h;split at h
  ·cases h
  rename_i s;cases j:l.bF with
  |none=>simp[j]at h|some jQ=>
   cases p:c.bF with
   |none=>simp[j,p]at h|some a=>
    simp only[j,p]at h;obtain⟨kl,rfl⟩:=af.vr j E;obtain⟨J,rfl⟩:=af.vr p F;cases q:(gY jQ a (.c 1099511627776)).cj S with
    |none=>simp[q]at h|some K=>
     simp only[q]at h;obtain⟨L,M⟩:=z4 q;cases r:(a.toN.ir i.bytes).fits.cj K with
     |none=>simp[r]at h|some e=>
      simp only[r]at h;obtain⟨u,O⟩:=B.fT r;cases f:xd P Q a.toN with
      |none=>simp[f]at h|some d=>
       simp only[f,aD,aO]at h;obtain⟨rfl,rfl⟩:=h;have U:=L.trans u;refine⟨e,d,jQ.toN,a.toN,U,rfl,rfl,fun ok=>?_⟩;have x:e.ok:=ok;obtain⟨X,y,A⟩:=M (u.ok x);have k:=O x;rw[N.fits,N.jO,N.u0,Z.toN_v]at k;have k:=bg k;simp only[N.v]at k;have A:a.v≤1099511627776:=A;obtain⟨Y,z,b,C,aa,ab⟩:=Pq f β;rw[hi]at b;injection b with b;subst b;have ad:(a.v.toNat:Int)=a.v:=D9 (by omega);have ae:(i.bytes:Int)*a.v≤281474976710656:=by
        have:(i.bytes:Int)*a.v=((a.v.toNat*i.bytes:Nat):Int):=by
         rw[gW];push_cast;rw[ad]
        omega
       rw[Z.toN_v]at ab aa;have ag:i.size≠0:=by intro Q;rw[Q]at s;cases s
       refine⟨(madeCells z.cells (a.v.toNat*i.size)).toList,Q,Yy f,fun o=>?_,fun w=>?_,?_,?_⟩
       ·obtain⟨Y,ah,b,m,_,D⟩:=Pq f o;rw[hi]at b;injection b with b;subst b;rw[C]at m;injection m with m;subst m;rw[Z.toN_v]at D;exact D
       ·rw[Z.toN_v,Z.toN_v];exact Jg P w t Q i z I hi C kl J jQ.v a.v X y ae (by omega)
       ·rw[Z.toN_v,Z.toN_v];exact anY y
       ·rw[Z.toN_v,Ef,size_madeCells];exact Ee _ (by omega)
def Yz(h:tf P t l c S=some (R,T))(i:aC β l V)(j:aC β c W)(k:aM G β S.H w):
 (T.ok→S.ok)∧(T.ok→Does P G β S w (Instr.makeSlice t V W) R T):=by
 obtain⟨f,d,n,a,b,rfl,rfl,m⟩:=Pt h i j;refine⟨b.ok,fun ok=>?_⟩;obtain⟨vs,Q,o,h1,h2,h3,h4⟩:=m ok;have p:aM G β f.H w:=by rw[b.H];exact k
 refine⟨_,_,h2 w,vo _ _,fun q=>?_⟩;obtain⟨r,g⟩:=Pr (S:=f) p (d:=d) Q (h1 β) (xE q) o;refine⟨_,?_,r,by rw[b.H]at g⊢;exact g⟩;exact .sl _ (.c 0) n (some a) (some (at' w.heap.size 0)) a.v h3 (fun C e=>by injection e with e;subst e;rfl)
  (.inr ⟨_,aE.gq ..,rfl,by show(0:Nat)+a.v≤vs.length;omega⟩)
def Pu:∀{l:List af},Es l=true→∀R∈l,R=.num (.int .u64 (.c 0))
 |[],_,R,a=>by cases a
 |e::r,h,R,a=>by
  unfold Es at h
  repeat' split at h
  all_goals(try(cases h;done))
  rename_i b;rw[nv]at b;simp only[eT]at b;subst b;rcases jJ.1 a with rfl|a
  ·rfl
  ·exact Pu h R a
def Jh(q n:Nat)(a:0<q)(v:Value):madeCells (⟨List.replicate q v⟩:Array Value) n=⟨List.replicate n v⟩:=by
 apply Array.ext
 ·rw[size_madeCells];simp
 ·intro i h1 h2;have b:i%q<q:=qv _ a;simp[madeCells,getElem!_def,b]
def YA{β:aE}(n:Nat):aK β (Data.bw (U.zero 64 n)).list (List.replicate n (.int .u64 0)):=by
 refine⟨by rw[Data.jx,ni];rfl,fun i R v e b=>?_⟩;have a:((List.replicate n 0#64).map af.av)[i]? =some R:=e;rw[anZ,mz]at a;rw[mz]at b;split at a
 ·rename_i hi;rw[ax hi]at b;injection a with a;injection b with b;subst a b;exact .num (.av 0#64)
 ·cases a
def YB(h:Et P t l c S=some (R,T))(F:aC β l V)(I:aC β c W)(J:aM G β S.H w):
 (T.ok→S.ok)∧(T.ok→Does P G β S w (Instr.makeSlice t V W) R T):=by
 unfold Et at h;split at h
 case h_2=>cases h
 rename_i Q K;cases hi:P.info? Q with
 |none=>simp[hi]at h|some i=>
  simp only[hi]at h;split at h
  ·cases h
  rename_i z L;split at h
  ·cases h
  rename_i r;rw[dI]at r;obtain⟨M,k⟩:=r;have k:0<i.size:=by simpa using k
  cases e:l.bF with
  |none=>simp[e]at h|some jQ=>
   cases m:c.bF with
   |none=>simp[e,m]at h|some a=>
    simp only[e,m]at h;obtain⟨kl,rfl⟩:=af.vr e F;obtain⟨O,rfl⟩:=af.vr m I;cases o:(gY jQ a (.c 1099511627776)).cj S with
    |none=>simp[o]at h|some X=>
     simp only[o]at h;obtain⟨Y,aa⟩:=z4 o;cases p:(a.toN.ir i.bytes).fits.cj X with
     |none=>simp[p]at h|some b=>
      simp only[p,aD,aO]at h;obtain⟨rfl,rfl⟩:=h;obtain⟨s,ab⟩:=B.fT p;have q:=Y.trans s;refine⟨fun ok=>q.ok ok,fun ok=>?_⟩;have u:b.ok:=ok;obtain⟨ad,x,y⟩:=aa (s.ok u);have f:=ab u;rw[N.fits,N.jO,N.u0,Z.toN_v]at f;have f:=bg f;simp only[N.v]at f;have y:a.v≤1099511627776:=y;obtain⟨aq,A,g,ae,ag,ar,ah⟩:=tG L β;rw[hi]at g;injection g with g;subst g;have aj:A.cells=⟨List.replicate i.size (.int .u64 0)⟩:=by
       apply j3;refine wX fun j=>?_;rw[mz];split
       ·rename_i au;obtain⟨v,ak,C⟩:=ag.get (i:=j) (bX (by omega));rw[ak];have:=Pu M _ (V9 (by omega:j<z.length));rw[this]at C;rw[C.num_inv];rfl
       ·rw[dz (by rw[Ef,ah];omega)]
      have al:(a.v.toNat:Int)=a.v:=D9 (by omega);have am:(i.bytes:Int)*a.v≤281474976710656:=by
       have:(i.bytes:Int)*a.v=((a.v.toNat*i.bytes:Nat):Int):=by
        rw[gW];push_cast;rw[al]
       omega
      have D:=Jg P w t Q i A K hi ae kl O jQ.v a.v ad x am (by omega);rw[aj,Jh _ _ k]at D;have an:aM G β b.H w:=by rw[q.H];exact J
      refine⟨_,_,D,vo _ _,fun ao=>?_⟩;obtain⟨ap,E⟩:=Pr (S:=b) an (d:=.bw (U.zero 64 (a.v.toNat*i.size))) Q (YA _) (xE ao) (fun _ _ h=>by cases h);rw[Z.toN_v];refine⟨_,?_,ap,by rw[q.H]at E⊢;exact E⟩;have:=aC.sm (β:=β.put b.H.length ⟨w.heap.size,0,(List.replicate (a.v.toNat*i.size) (Value.int .u64 0)).length⟩) b.H.length jQ.toN i.size (some (at' w.heap.size 0)) a.v.toNat (by rw[Z.toN_v];exact anY x) (.inr ⟨_,aE.gq ..,rfl,by simp⟩);rw[Z.toN_v]at this;exact this
def YC(h:BK P t l c S=some (R,T))(a:aC β l V)(b:aC β c W)(e:aM G β S.H w):
 (T.ok→S.ok)∧(T.ok→Does P G β S w (Instr.makeSlice t V W) R T):=by
 unfold BK at h;split at h
 ·rename_i r f;cases h;exact Yz f a b e
 ·exact YB h a b e
end
end
section
variable [aR][aG]
variable{n:N}{S T:ai}{o:N}{R:List ah}{x:af}{b:Nat}{Q:Loc}{l:N}
section
variable{P:Program}{G:Nat→Option (List af)}{β:aE}{w:World}
def Data.Pv{d e:Data}(h:d.kL o n S=some (e,T)):
 Pure S T∧(T.ok→o.v+n.v≤d.len∧e.len=n.v∧e.list=(d.list.drop o.v).take n.v):=by
 cases d with
 |gen l=>
  cases o with
  |s _=>simp[Data.kL]at h|c o=>
   cases n with
   |s _=>simp[Data.kL]at h|c n=>
    simp only[Data.kL,bT,aO]at h;obtain⟨r,f,rfl,rfl⟩:=h;obtain⟨h1,rfl⟩:=Cn _ _ _ _ f;exact⟨Pure.refl _,fun _=>⟨h1,by simp[Data.len,N.v];omega,rfl⟩⟩
 |aj l=>
  simp only[Data.kL,aD,aO]at h;obtain⟨rfl,rfl⟩:=h;refine⟨gi _ _,fun ok=>?_⟩;have a:=bg (gp ok);exact⟨a,rfl,by simp[Data.list,U.Bv a,Wa,Wb]⟩
 |eX l=>
  simp only[Data.kL,aD,aO]at h;obtain⟨rfl,rfl⟩:=h;refine⟨gi _ _,fun ok=>?_⟩;have a:=bg (gp ok);exact⟨a,rfl,by simp[Data.list,U.Bv a,Wa,Wb]⟩
 |bw l=>
  simp only[Data.kL,aD,aO]at h;obtain⟨rfl,rfl⟩:=h;refine⟨gi _ _,fun ok=>?_⟩;have a:=bg (gp ok);exact⟨a,rfl,by simp[Data.list,U.Bv a,Wa,Wb]⟩
 |spot _ _ _=>simp[Data.kL]at h|e9 _ _=>simp[Data.kL]at h|lim _ _=>simp[Data.kL]at h
def Data.YD{d c:Data}(h:d.qC o n S=some (c,T)):
 Pure S T∧(T.ok→o.v+n.v≤d.len∧c.len=n.v∧∀(β:aE) vs,aK β ((d.list.drop o.v).take n.v) vs→aK β c.list vs):=by
 unfold Data.qC at h;split at h
 ·rename_i m e;simp only[aD,aO]at h;obtain⟨rfl,rfl⟩:=h;refine⟨gi _ _,fun ok=>?_⟩;have p:=bg (gp ok);have q:=m.row.h;have r:=Fi e;refine⟨by omega,rfl,fun β vs f=>?_⟩;have j:(m.row.sub (o.v-m.pre.length) n.v).l=(m.row.l.drop (o.v-m.pre.length)).take n.v:=U.Bv (by omega)
  show aK β ((m.row.sub (o.v-m.pre.length) n.v).l.map .bP) vs;rw[j];refine⟨?_,fun i x v g k=>?_⟩
  ·rw[←f.1,mA,pM,pM,D8,D8,Data.jx];omega
  ·rw[ef,bT]at g;obtain⟨s,a,rfl⟩:=g;rw[lM]at a;split at a
   ·rename_i hi;rw[s8]at a;obtain⟨z,h3,h4⟩:=Pb e a;refine h4 β v (f.2 i z v ?_ k);rw[lM,ax hi,s8,Data.qL (Fq e),show o.v+i=m.pre.length+(o.v-m.pre.length+i) by omega];exact h3
   ·cases a
 ·cases h
def YE{d a:Data}(h:d.kL o n S=some (a,T)):d.full:=by
 cases d<;>first|(simp[Data.kL]at h;done)|(intro f l c;cases c)
def Ji{d a:Data}(h:d.sub o n S=some (a,T)):d.full:=by
 unfold Data.sub at h;split at h
 ·rename_i r c;cases h;exact YE c
 ·split at h
  ·rename_i d2 e;exact(z0 e).1
  ·unfold Data.qC at h;split at h
   ·rename_i m f;exact Fq f
   ·cases h
def Pw{d a:Data}(h:d.kL o n S=some (a,T)):a.full:=by
 cases d<;>simp only[Data.kL]at h
 case gen l=>
  cases o<;>cases n<;>simp at h;obtain⟨e,_,rfl,_⟩:=h;exact lU _
 all_goals first|(cases h;done)|(simp only[aD,aO]at h;obtain⟨rfl,_⟩:=h;exact fun f l c=>(by cases c))
def YF{d a:Data}(h:d.sub o n S=some (a,T)):a.full:=by
 unfold Data.sub at h;split at h
 ·rename_i r c;cases h;exact Pw c
 ·split at h
  ·exact Pw h
  ·unfold Data.qC at h;split at h
   ·simp only[aD,aO]at h;obtain⟨rfl,_⟩:=h;exact fun f l e=>(by cases e)
   ·cases h
def YG{a:Data}(h:lg x n S=some (a,T)):a.full:=by
 unfold lg at h;split at h
 ·split at h
  ·exact YF h
  ·cases h
 ·simp only[aD,aO]at h;obtain⟨rfl,_⟩:=h;exact lU _
 ·split at h
  ·simp only[aD,aO]at h;obtain⟨rfl,_⟩:=h;exact lU _
  ·cases h
 ·cases h
def Data.vt{d f:Data}(h:d.sub o n S=some (f,T)):
 Pure S T∧(T.ok→o.v+n.v≤d.len∧f.len=n.v∧∀(β:aE) vs,aK β ((d.list.drop o.v).take n.v) vs→aK β f.list vs):=by
 unfold Data.sub at h;split at h
 ·rename_i r m;cases h;obtain⟨h1,h2⟩:=Data.Pv m;refine⟨h1,fun ok=>?_⟩;obtain⟨k,g,j⟩:=h2 ok;exact⟨k,g,fun β vs c=>by rw[j];exact c⟩
 ·split at h
  ·rename_i d2 e;obtain⟨h1,h2⟩:=Data.Pv h;refine⟨h1,fun ok=>?_⟩;obtain⟨k,g,j⟩:=h2 ok;have p:=zX e;refine⟨by omega,g,fun β vs c=>?_⟩;rw[j];refine⟨?_,fun i x v a q=>?_⟩
   ·rw[←c.1,pM,pM,D8,D8,Data.jx,Data.jx,p]
   ·rw[lM]at a;split at a
    ·rename_i hi;rw[s8,Data.qL (z0 e).2]at a;obtain⟨s,h3,h4⟩:=I3 e a;refine h4 β v (c.2 i s v ?_ q);rw[lM,ax hi,s8,Data.qL (z0 e).1];exact h3
    ·cases a
  ·exact Data.YD h
def Fx{d:Data}{m:Mode}(s:aM G β R w)(t:R[b]? =some ⟨d,m⟩)(h:m.alive)(i:β b=some Q){o n:Nat}(C:o+n≤d.len)(y:d.full):
 ∃vs:List Value,vs.length=n∧aK β ((d.list.drop o).take n) vs∧(∀(j:Nat) v,vs[j]? =some v→w.cell? ((at' Q.c (Q.base+o)).add j)=some v)∧∀j,j<n→gh ((at' Q.c (Q.base+o)).add j) false:=by
 refine⟨(List.range n).map fun j=>(w.cell? (at' Q.c (Q.base+(o+j)))).getD undef,by simp,⟨?_,?_⟩,?_,fun j a=>?_⟩
 ·simp[Data.jx];omega
 ·intro j x v k e;rcases cu j n with a|a
  ·simp only[lM,a,g6,s8,Data.qL y]at k;rcases s.blk b _ t h with⟨z,f,p⟩|⟨_,g⟩
   ·rw[i]at f;injection f with q;subst q;obtain⟨u,r,A,_⟩:=p.cell h k;simp[a,r]at e;subst e;exact A
   ·rw[i]at g;cases g
  ·rw[dz (by simpa using a)]at e;cases e
 ·intro j v e;rcases cu j n with a|a
  ·have k:d.at (o+j)=some (d.list[o+j]'(by rw[Data.jx];omega)):=by rw[←Data.qL y];simp
   rcases s.blk b _ t h with⟨z,f,p⟩|⟨_,g⟩
   ·rw[i]at f;injection f with q;subst q;obtain⟨u,r,_⟩:=p.cell h k;simp[a,r]at e;rw[oV,iD,r,e]
   ·rw[i]at g;cases g
  ·rw[dz (by simpa using a)]at e;cases e
 ·have k:d.at (o+j)=some (d.list[o+j]'(by rw[Data.jx];omega)):=by rw[←Data.qL y];simp
  rcases s.blk b _ t h with⟨z,f,p⟩|⟨_,g⟩
  ·rw[i]at f;injection f with q;subst q;obtain⟨u,r,_,B⟩:=p.cell h k;rw[oV,iD];exact B
  ·rw[i]at g;cases g
def Px{r:Value}{p:Data}(h:lg x n S=some (p,T))(f:aC β x r)(g:js x=some l)(t:n.v≤l.v)(B:aM G β S.H w):
 Pure S T∧(T.ok→p.len=n.v∧∃vs:List Value,vs.length=n.v∧aK β p.list vs∧
  ∀w':World,(∀a,w'.cell? a=w.cell? a)→(Builtin.firstCells 1 n.v r).aI P w'=.ok ⟨vs⟩ w'):=by
 unfold lg at h;split at h
 ·rename_i b o _ _;cases q:S.read b with
  |none=>simp[q]at h|some d=>
   simp only[q]at h;obtain⟨C,D⟩:=Data.vt h;refine⟨C,fun ok=>?_⟩;obtain⟨h1,h2,h3⟩:=D ok;obtain⟨a,V,rfl,W,X,u⟩:=f.pW;obtain⟨m,E,F⟩:=ai.r9 q;simp only[js,aD]at g;subst g;refine⟨h2,?_⟩;rcases u with u|⟨Q,I,rfl,bf⟩
   ·have e:n.v=0:=by omega
    refine⟨[],by simp[e],?_,fun w' _=>?_⟩
    ·exact h3 _ _ (by rw[e];exact aK.nil β)
    ·rw[e];cases a with
     |none=>exact xF P w' 1 0 _ _|some a=>exact vp P w' 1 0 a _ _ [] (by simp) (fun j v i=>by simp at i) (fun j J=>absurd J (oz _))
   ·obtain⟨vs,y,K,L,gN⟩:=Fx B E F I h1 (Ji h);exact⟨vs,y,h3 _ _ K,fun w' M=>vp P w' 1 n.v _ _ _ vs (by omega) (fun j v i=>by rw[M];exact L j v i) (by rw[y];exact gN)⟩
 ·obtain⟨rfl,rfl⟩:_∧_:=by simpa using h
  simp only[js,aD]at g;subst g;have e:n.v=0:=by simpa[N.v]using t
  cases f;refine⟨Pure.refl _,fun _=>⟨by simp[Data.len,e],[],by simp[e],aK.nil β,fun w' _=>?_⟩⟩;rw[e];exact xF P w' 1 0 _ _
 ·rename_i A;cases n with
  |s _=>simp at h|c n=>
   simp only[aD,aO]at h;obtain⟨rfl,rfl⟩:=h;simp only[js,aD]at g;subst g;cases f;have Y:n≤A.data.toList.length:=by simpa[N.v]using t
   refine⟨Pure.refl _,fun _=>⟨by simp only[Data.len,N.v,mA,pM];omega,(A.data.toList.take n).map (fun b=>.int .u8 b.toNat),by simp only[mA,pM,N.v];omega,⟨by simp[Data.list],?_⟩,?_⟩⟩
   ·intro j x v f i;simp only[Data.list,ef,bT]at f i;obtain⟨O,U,rfl⟩:=f;obtain⟨z,k,rfl⟩:=i;rw[U]at k;injection k with k;subst k;exact .num (.int .u8 (.c O.toNat))
   ·intro w' _;simp only[Builtin.firstCells,Sem.fS,N.v];congr 1;apply j3;simp[ByteArray.data_extract]
 ·cases h
def Jj{d:Data}{vs:List Value}(h:d.zl=true)(a:aK β d.list vs):∀v∈vs,v.oneCell'=true:=by
 cases d with
 |gen l=>exact Pj h a|aj l=>
  intro v c;obtain⟨i,hi⟩:=N1 c;have e:i<(Data.aj l).list.length:=by rw[a.1];exact(dW.1 hi).1
  have:=a.2 i _ v (bX e) hi;simp only[Data.list,N2]at this;rw[this.num_inv];rfl
 |eX l=>
  intro v c;obtain⟨i,hi⟩:=N1 c;have e:i<(Data.eX l).list.length:=by rw[a.1];exact(dW.1 hi).1
  have:=a.2 i _ v (bX e) hi;simp only[Data.list,N2]at this;rw[this.num_inv];rfl
 |bw l=>
  intro v c;obtain⟨i,hi⟩:=N1 c;have e:i<(Data.bw l).list.length:=by rw[a.1];exact(dW.1 hi).1
  have:=a.2 i _ v (bX e) hi;simp only[Data.list,N2]at this;rw[this.num_inv];rfl
 |spot _ _ _=>simp[Data.zl]at h|e9 _ _=>simp[Data.zl]at h|lim _ _=>simp[Data.zl]at h
def vu{v:Value}(h:js x=some l)(c:aC β x v)(w:World):(Builtin.lenOf v).aI P w=.ok l.v w:=by
 unfold js at h;split at h
 ·cases h;obtain⟨a,d,rfl,_⟩:=c.pW;simp[Builtin.lenOf]
 ·cases h;cases c;simp[Builtin.lenOf,N.v]
 ·cases h;cases c;simp[Builtin.lenOf,N.v]
 ·cases h
def Data.Fy{d x r:Data}(h:d.app x=some r):r.len=d.len+x.len∧∀{β:aE} {vs us:List Value},aK β d.list vs→aK β x.list us→aK β r.list (vs++us):=by
 cases d with
 |gen l=>
  cases x with
  |gen g=>simp[Data.app]at h;subst h;exact⟨by simp[Data.len],fun c f=>c.append f⟩|aj g=>
   simp[Data.app]at h;obtain⟨a,e,rfl⟩:=h;exact⟨by simp[Data.len,U.app,U.of,tE e],fun c f=>by simp only[Data.list,U.app,U.of,Bl]at *;exact(I1 e c).append f⟩
  |eX g=>
   simp[Data.app]at h;obtain⟨a,e,rfl⟩:=h;exact⟨by simp[Data.len,U.app,U.of,tE e],fun c f=>by simp only[Data.list,U.app,U.of,Bl]at *;exact(O5 e c).append f⟩
  |bw g=>
   simp[Data.app]at h;obtain⟨a,e,rfl⟩:=h;exact⟨by simp[Data.len,U.app,U.of,tE e],fun c f=>by simp only[Data.list,U.app,U.of,Bl]at *;exact(O6 e c).append f⟩
  |spot _ _ _=>simp[Data.app]at h|e9 _ _=>simp[Data.app]at h|lim _ _=>simp[Data.app]at h
 |aj l=>
  simp only[Data.app,bT]at h;obtain⟨a,e,rfl⟩:=h;exact⟨by simp[Data.len,U.app,Co e],fun c f=>by simp only[Data.list,U.app,Bl]at c⊢;exact c.append (Cp e f)⟩
 |eX l=>
  simp only[Data.app,bT]at h;obtain⟨a,e,rfl⟩:=h;exact⟨by simp[Data.len,U.app,Fc e],fun c f=>by simp only[Data.list,U.app,Bl]at c⊢;exact c.append (Ff e f)⟩
 |bw l=>
  simp only[Data.app,bT]at h;obtain⟨a,e,rfl⟩:=h;exact⟨by simp[Data.len,U.app,Fe e],fun c f=>by simp only[Data.list,U.app,Bl]at c⊢;exact c.append (Fg e f)⟩
 |spot _ _ _=>simp[Data.app]at h|lim _ _=>simp[Data.app]at h|e9 l t=>
  cases x with
  |gen g=>
   simp[Data.app]at h;subst h;exact⟨by simp[Data.len];omega,fun c f=>by simp only[Data.list,y5]at c⊢;rw[←y5];exact c.append f⟩
  |_=>simp[Data.app]at h
def Data.pZ{d x r:Data}(h:d.app x=some r):d.full∧r.full:=by
 cases d<;>cases x<;>simp[Data.app]at h<;>(try subst h)<;>(try obtain⟨a,_,rfl⟩:=h)<;>exact⟨fun f l c=>(by cases c),fun f l c=>(by cases c)⟩
def aM.Py(f:aM G β R w){d:Data}(t:d.len=0):aM G β (R++[⟨d,.own⟩]) w∧bJ β R w β (R++[⟨d,.own⟩]) w:=by
 have g:=f.I6;have i:∀(b:Nat) k,(R++[⟨d,.own⟩])[b]? =some k→(b<R.length∧R[b]? =some k)∨(b=R.length∧k=⟨d,.own⟩):=by
  intro b k a;rcases wV b R.length with h|h|h
  ·rw[gV h]at a;exact .inl ⟨h,a⟩
  ·subst h;simp at a;exact .inr ⟨rfl,a.symm⟩
  ·rw[gL (by omega),dz (by simp;omega)]at a;cases a
 refine⟨⟨?_,?_,?_,f.dA,?_⟩,⟨aE.le_refl β,by simp,rfl,rfl,rfl,aV _,fun _ _ _=>bL.refl _ _,?_,fun _ _=>rfl⟩⟩
 ·intro b k a m;rcases i b k a with⟨h,a⟩|⟨rfl,rfl⟩
  ·exact f.blk b k a m
  ·exact .inr ⟨t,g⟩
 ·intro b r k s Q u v a p j m e q;rcases i b k a with⟨h,a⟩|⟨rfl,rfl⟩
  ·rcases i r s p with⟨z,p⟩|⟨rfl,rfl⟩
   ·exact f.dL b r k s Q u v a p j m e q
   ·rw[g]at q;cases q
  ·rw[g]at e;cases e
 ·intro b Q e;have:=f.fl b Q e;simp;omega
 ·intro b k Q a j e;rcases i b k a with⟨h,a⟩|⟨rfl,rfl⟩
  ·exact f.apart b k Q a j e
  ·rw[g]at e;cases e
 ·intro c A ⟨b,k,Q,a,j,e,y⟩;rcases i b k a with⟨h,a⟩|⟨rfl,rfl⟩
  ·exact⟨b,k,Q,a,j,e,y⟩
  ·rw[g]at e;cases e
def aM.move(C:aM G β R w){d g:Data}(D:R[b]? =some ⟨d,.own⟩)(p:β b=some Q)(t:List Value)
 (W:t.length=Q.room) (X:g.len≤Q.room) (Y:aK β g.list (t.take g.len)) (Z:∀c,fI d c→fI g c) (E:Data):
 aM G (β.put R.length Q) (R.set b ⟨E,.bn⟩++[⟨g,.own⟩]) (w.setRow Q.c ⟨t⟩)∧bJ β R w (β.put R.length Q) (R.set b ⟨E,.bn⟩++[⟨g,.own⟩]) (w.setRow Q.c ⟨t⟩):=by
 obtain⟨h1,h2⟩:=C.write D p t W X Y Z;have I:b<R.length:=by
  rcases cu b R.length with h|h
  ·exact h
  ·simp[dz h]at D
 have y:=aE.Fj (L:=Q) C.I6;have u:(R.set b ⟨g,.own⟩)[b]? =some ⟨g,.own⟩:=by simp[I]
 have q:∀(x:Nat) k,(R.set b ⟨E,.bn⟩++[⟨g,.own⟩])[x]? =some k→k.mode.alive→(x<R.length∧x≠b∧(R.set b ⟨g,.own⟩)[x]? =some k)∨(x=R.length∧k=⟨g,.own⟩):=by
  intro x k a i;rcases wV x R.length with h|h|h
  ·rw[gV (by simpa using h)]at a;by_cases f:x=b
   ·subst f;rw[pL I]at a;injection a with a;subst a;exact absurd rfl i
   ·rw[mw (fC f)]at a;exact .inl ⟨h,f,by rw[mw (fC f)];exact a⟩
  ·subst h;rw[gL (by simp)]at a;simp at a;exact .inr ⟨rfl,a.symm⟩
  ·rw[gL (by simp;omega),dz (by simp;omega)]at a;cases a
 refine⟨⟨?_,?_,?_,h1.dA,?_⟩,⟨y,by simp,h2.os,h2.tape,h2.output,h2.size,h2.kept,?_,fun b D=>aE.g5 (by omega)⟩⟩
 ·intro x k a i;rcases q x k a i with⟨F,z,a⟩|⟨rfl,rfl⟩
  ·rcases h1.blk x k a i with⟨j,e,H⟩|⟨aa,ab⟩
   ·exact .inl ⟨j,y x j e,H.mono y (aV _) (bL.refl _ _)⟩
   ·exact .inr ⟨aa,by rw[aE.g5 (by omega)];exact ab⟩
  ·rcases h1.blk b _ u (eo rfl)with⟨j,e,H⟩|⟨_,J⟩
   ·rw[p]at e;injection e with f;subst f;exact .inl ⟨Q,aE.gq ..,H.mono y (aV _) (bL.refl _ _)⟩
   ·rw[p]at J;cases J
 ·intro x A k B K M O a r m i v s;rcases q x k a (eo m)with⟨F,z,a⟩|⟨rfl,rfl⟩
  ·rw[aE.g5 (by omega)]at v;rcases q A B r i with⟨ad,U,r⟩|⟨rfl,rfl⟩
   ·rw[aE.g5 (by omega)]at s;exact h1.dL x A k B K M O a r m i v s
   ·rw[aE.gq]at s;injection s with f;subst f;exact h1.dL x b k _ K Q z a u m (eo rfl) v p
  ·rw[aE.gq]at v;injection v with f;subst f;rcases q A B r i with⟨ad,U,r⟩|⟨rfl,rfl⟩
   ·rw[aE.g5 (by omega)]at s;exact h1.dL b A _ B Q M (fC U) u r rfl i p s
   ·exact absurd rfl O
 ·intro x j e;simp only[fB,lJ,iW,kI];by_cases f:x=R.length
  ·omega
  ·rw[aE.g5 f]at e;have:=C.fl x j e;omega
 ·intro x k j a m e;rcases q x k a (eo m)with⟨F,z,a⟩|⟨rfl,rfl⟩
  ·rw[aE.g5 (by omega)]at e;exact h1.apart x k j a m e
  ·rw[aE.gq]at e;injection e with f;subst f;exact h1.apart b _ Q u rfl p
 ·intro c ae ⟨x,k,j,a,m,e,V⟩;refine h2.own c ae ?_;rcases q x k a (eo m)with⟨F,z,a⟩|⟨rfl,rfl⟩
  ·rw[aE.g5 (by omega)]at e;exact⟨x,k,j,a,m,e,V⟩
  ·rw[aE.gq]at e;injection e with f;subst f;exact⟨b,_,Q,u,rfl,p,V⟩
def bJ.kill(b:Nat)(d:Data):bJ β R w β (R.set b ⟨d,.bn⟩) w:=by
 refine⟨aE.le_refl β,by simp,rfl,rfl,rfl,aV _,fun _ _ _=>bL.refl _ _,?_,fun _ _=>rfl⟩;intro c j ⟨x,k,Q,a,e,g,i⟩;by_cases f:x=b
 ·subst f;rcases cu x R.length with h|h
  ·rw[pL h]at a;injection a with a;subst a;cases e
  ·rw[dz (by simpa using h)]at a;cases a
 ·rw[mw (fC f)]at a;exact⟨x,k,Q,a,e,g,i⟩
end
end
section
variable [aR][aG]
variable{t u ty Q:TypeId}{i:TypeInfo}{d:TypeDesc}{R:Value}{base:Option Addr}{sLen sCap n:Nat}{vs:List Value}{z:Value}
section
variable{P:Program}{G:Nat→Option (List af)}{β:aE}{w:World}
def xI(d:TypeDesc):Prop:=(∃Q,d=.slice Q)∨d=.string
def z6{w':World}(b:P.underlying t=some (.slice Q))(c:P.underlying u=some d)(k:xI d)
 (hi:P.info? Q=some i) (e:i.size=1) (f:∀w,(Builtin.lenOf R).aI P w=.ok n w) (g:(Builtin.firstCells 1 n R).aI P w=.ok ⟨vs⟩ w) (h:sLen+n≤sCap)
 (j:(base=none∧w'=w)∨∃a,base=some a∧(storeCells (a.add sLen) vs).aI P w=.ok () w'):
 (Builtin.append_ #[t,u] ty #[.slice base sLen sCap,R]).aI P w=.ok (.slice base (sLen+n) sCap) w':=by
 rcases j with⟨rfl,rfl⟩|⟨a,rfl,j⟩<;>rcases k with⟨l,rfl⟩|rfl
 ·simp[Builtin.append_,cN b,cN c,sizeOf,typeInfo,hi,e,f,g,h]
 ·simp[Builtin.append_,cN b,cN c,sizeOf,typeInfo,hi,e,f,g,h]
 ·simp[Builtin.append_,cN b,cN c,sizeOf,typeInfo,hi,e,f,g,h,j]
 ·simp[Builtin.append_,cN b,cN c,sizeOf,typeInfo,hi,e,f,g,h,j]
def Pz{olds:List Value}(a:P.underlying t=some (.slice Q))(b:P.underlying u=some d)(o:xI d)
 (hi:P.info? Q=some i) (c:i.zero=some z) (e:i.size=1) (f:∀w,(Builtin.lenOf R).aI P w=.ok n w) (g:(Builtin.firstCells 1 n R).aI P w.drew=.ok ⟨vs⟩ w.drew)
 (h:(Builtin.firstCells 1 sLen (.slice base sLen sCap)).aI P w.drew=.ok ⟨olds⟩ w.drew) (p:sCap<sLen+n) (q:(sLen+n)*i.bytes≤1099511627776) (j:i.bytes≠0):
 (Builtin.append_ #[t,u] ty #[.slice base sLen sCap,R]).aI P w=
  .ok (.slice (some (at' w.heap.size 0)) (sLen+n) (grownCap w (sLen+n) sCap Q))
   (w.drew.alloc (.cells ⟨olds++vs++(Builtin.zeroCells z.cells (grownCap w (sLen+n) sCap Q-(sLen+n))).toList⟩ Q)):=by
 have k:¬(sLen+n≤sCap):=by omega
 have r:sLen+n≤(sLen+n)*i.bytes:=Ee _ (by omega);have l:¬(9223372036854775807<((sLen:Int)+(n:Int))):=by omega
 have m:¬(281474976710656<Builtin.nextslicecap (sLen+n) sCap*i.bytes):=by have:=growslice_fits p (bytes:=i.bytes) (by omega);omega
 rcases o with⟨s,rfl⟩|rfl
 ·simp[Builtin.append_,cN a,cN b,sizeOf,typeInfo,zeroValue,hi,c,e,f,k,l,m,j,Question.forced,g,h,newRow,grownCap,at'];congr 2;apply j3;simp
 ·simp[Builtin.append_,cN a,cN b,sizeOf,typeInfo,zeroValue,hi,c,e,f,k,l,m,j,Question.forced,g,h,newRow,grownCap,at'];congr 2;apply j3;simp
def Jk(w:World)(a old:Nat)(Q:TypeId):a≤grownCap w a old Q:=by
 simp[grownCap,Question.cut]
def YH{bb:Value}{S y aL:ai}{b:Nat}{o l:N}{aW:Option N}{n:N}{an:Data}{r:af}{us:List Value}
 (aw:P.underlying t=some (.slice Q)) (ax:P.underlying u=some d) (az:xI d) (hi:P.info? Q=some i) (bs:i.zero=some z) (aA:i.size=1) (bt:z.cells.size=1) (bu:i.bytes≠0)
 (aB:∀w,(Builtin.lenOf R).aI P w=.ok n.v w) (aF:∀w':World,(∀a,w'.cell? a=w.cell? a)→(Builtin.firstCells 1 n.v R).aI P w'=.ok ⟨us⟩ w') (aN:us.length=n.v) (Z:an.len=n.v) (ao:aK β an.list us)
 (aX:∀v∈us,v.oneCell'=true) (bv:aC β (.ref (.sl b o l aW)) bb) (bw:aM G β S.H w) (aa:Pure S y) (bz:(l.v+n.v)*i.bytes≤1099511627776) (h:zm b o l aW n an y=some (r,aL)):
 (aL.ok→y.ok)∧(aL.ok→Does P G β S w (Builtin.append_ #[t,u] ty #[bb,R]) r aL):=by
 obtain⟨a,A,rfl,b4,aY,O⟩:=bv.pW;have ab:aM G β y.H w:=by rw[aa.H];exact bw
 have b5:aK β [] []:=aK.nil β;unfold zm at h;have aZ:∀(g p:Data) (m:Mode) (T:List ah),y.H[b]? =some ⟨g,m⟩→g.full∧p.full→m.alive→o.v+l.v≤g.len→(∀vs:List Value,aK β ((g.list.drop o.v).take l.v) vs→aK β p.list (vs++us))→p.len=l.v+n.v→A<l.v+n.v→
  aM G β T w→bJ β y.H w β T w→T.length=y.H.length→∀k:N,k.v=l.v+n.v→
  ∃v w',(Builtin.append_ #[t,u] ty #[.slice a l.v A,R]).aI P w=.ok v w'∧ff w w'∧(lm w w'→∃s,aC s (.ref (.sl y.H.length (.c 0) k none)) v∧aM G s (T++[⟨p,.own⟩]) w'∧bJ β y.H w s (T++[⟨p,.own⟩]) w'):=by
  intro g p m T M bc ap bA a0 bd aj bB bC bh k bi;have hold:∃ad:List Value,ad.length=l.v∧aK β ((g.list.drop o.v).take l.v) ad∧(Builtin.firstCells 1 l.v (.slice a l.v A)).aI P w.drew=.ok ⟨ad⟩ w.drew:=by
   rcases O with O|⟨e,K,rfl,bf⟩
   ·have aP:l.v=0:=by omega
    refine⟨[],by simp[aP],by rw[aP];exact aK.nil β,?_⟩;rw[aP];cases a with
    |none=>exact xF P _ 1 0 _ _|some a=>exact vp P _ 1 0 a _ _ [] (by simp) (fun j v f=>by simp at f) (fun j bD=>absurd bD (oz _))
   ·obtain⟨vs,bj,bE,bF,gN⟩:=Fx ab M ap K bA bc.1;exact⟨vs,bj,bE,vp P _ 1 l.v _ _ _ vs (by omega) (fun j v f=>bF j v f) (by rw[bj];exact gN)⟩
  obtain⟨ad,aH,a1,bG⟩:=hold;have bH:=Pz (P:=P) (w:=w) (base:=a) (ty:=ty) aw ax az hi bs aA aB (aF w.drew (fun a=>rfl)) bG aj bz bu;have aQ:=bB.drew.new p (ad++us++(Builtin.zeroCells z.cells (grownCap w (l.v+n.v) A Q-(l.v+n.v))).toList) Q (by simp;omega) (by
   rw[bd,y5,←y5,HO (by simp;omega),qy (by simp;omega)];exact a0 ad a1)
  refine⟨_,_,bH,I9 _ _,fun F=>?_⟩;have aQ:=aQ (fI.of (I8 F) bc.2);refine⟨_,?_,aQ.1,(bC.trans (bJ.drew β T w)).trans aQ.2⟩;have bI:=Jk w (l.v+n.v) A Q;have bK:(Builtin.zeroCells z.cells (grownCap w (l.v+n.v) A Q-(l.v+n.v))).toList.length=grownCap w (l.v+n.v) A Q-(l.v+n.v):=by simp[Builtin.zeroCells,bt]
  have f:=aC.sl (β:=β.put T.length ⟨w.heap.size,0,(ad++us++(Builtin.zeroCells z.cells (grownCap w (l.v+n.v) A Q-(l.v+n.v))).toList).length⟩) T.length (.c 0) k none (some (at' w.heap.size 0)) (grownCap w (l.v+n.v) A Q)
   (by rw[bi];exact bI) (fun C aJ=>by cases aJ) (.inr ⟨_,aE.gq ..,rfl,by
    show 0+grownCap w (l.v+n.v) A Q≤(ad++us++_).length;rw[fB,fB,bK,aH,aN];omega⟩)
  rw[bi,bh]at f;rw[←bh]at f⊢;exact f
 cases aW with
 |some C=>
  simp only at h;split at h
  case h_2=>
   split at h
   ·cases h
   ·rename_i b6 a2;obtain⟨bL,a3⟩:=B.oO a2;split at h
    ·cases h
    rename_i aS bM;obtain⟨bk,bN⟩:=B.fT bM;have ak:=bL.trans bk;cases I:aS.read b with
    |none=>simp[I]at h|some g=>
     simp only[I]at h;obtain⟨m,M,ap⟩:=ai.r9 I;have aT:C.v=A:=aY _ rfl;split at h
     case h_2=>cases h
     rename_i p q U;have a4:=U;obtain⟨x,U⟩:=Data.pY U;cases J:q.write b p with
     |none=>simp[J]at h|some bO=>
      simp only[J,aD,aO]at h;obtain⟨rfl,rfl⟩:=h;refine⟨fun ok=>ak.ok (x.tF J ok),fun ok=>?_⟩;have bl:=x.tF J ok;have ae:=a3 (bk.ok bl);rw[N.jO,N.gM]at ae;have ae:l.v+n.v≤C.v:=bg ae;have aU:=bN bl;rw[N.jO]at aU;have aU:1≤C.v:=bg aU;obtain⟨h1,h2,h3⟩:=U (zZ J ok);have bP:aM G β aS.H w:=by rw[ak.H];exact ab
      rcases O with O|⟨e,K,rfl,bf⟩
      ·omega
      ·have aq:=Cu (P:=P) (us:=us) (o:=(o.add l).v) bP x I J K (by rw[N.gM,aN];rw[N.gM,Z]at h1;omega) h2 (fun f=>h3 ao f) aX;obtain⟨w',V,W,D⟩:=aq (Fs a4 _);subst aT;refine⟨.slice (some (at' e.c (e.base+o.v))) (l.v+n.v) C.v,w',?_,W,fun F=>?_⟩
       ·refine z6 (ty:=ty) aw ax az hi aA aB (aF w (fun _=>rfl)) ae (.inr ⟨_,rfl,?_⟩);rw[oV,←V,N.gM,iD]
       ·obtain⟨s,D,X⟩:=D F;have f:=aC.sl (β:=s) b o (l.add n) (some C) (some (at' e.c (e.base+o.v))) C.v (by rw[N.gM];exact ae) (fun bQ al=>by injection al with al;subst al;rfl) (.inr ⟨e,X.le b e K,rfl,bf⟩);rw[N.gM]at f;exact⟨s,f,D,by rw[←aa.H,←ak.H];exact X⟩
   ·rename_i aS a2;obtain⟨ak,a3⟩:=B.oO a2;cases I:aS.read b with
    |none=>simp[I]at h|some g=>
     simp only[I]at h;obtain⟨m,M,ap⟩:=ai.r9 I;have aT:C.v=A:=aY _ rfl;split at h
     case h_2=>cases h
     rename_i a5 q Y;have a6:=Y;obtain⟨x,Y⟩:=Data.vt Y;cases E:a5.app an with
     |none=>simp[E]at h|some p=>
      simp only[E,aD,aO]at h;obtain⟨rfl,rfl⟩:=h;refine⟨fun o=>ak.ok (x.ok o),fun ok=>?_⟩;have aj:=a3 (x.ok ok);rw[N.jO,N.gM]at aj;have aj:¬l.v+n.v≤C.v:=of_decide_eq_false aj;obtain⟨h1,h2,h3⟩:=Y ok;obtain⟨ag,ar⟩:=Data.Fy E;obtain⟨v,w',V,W,D⟩:=aZ g p m y.H (by rw[←ak.H];exact M) ⟨Ji a6,(Data.pZ E).2⟩ ap h1 (fun vs f=>ar (h3 _ _ f) ao) (by rw[ag,h2,Z]) (by omega) ab (bJ.refl ..) rfl (l.add n) (N.gM ..);refine⟨v,w',V,W,fun F=>?_⟩;obtain⟨s,bR,bS,bT⟩:=D F;have aH:q.H=y.H:=by rw[x.H,ak.H]
      refine⟨s,by rw[aH];exact bR,?_,?_⟩
      ·show aM G s (q.H++_) w';rw[aH];exact bS
      ·show bJ β S.H w s (q.H++_) w';rw[aH,←aa.H];exact bT
  rename_i C am au;cases I:y.read b with
  |none=>simp[I]at h|some g=>
   simp only[I]at h;obtain⟨m,M,ap⟩:=ai.r9 I;have aT:C=A:=aY _ rfl;subst aT;split at h
   ·rename_i L;simp only[dI]at L;have ae:am+au≤C:=by simpa using L.1
    have aU:1≤C:=by simpa using L.2
    split at h
    case h_2=>cases h
    rename_i p q U;have a4:=U;obtain⟨x,U⟩:=Data.pY U;cases J:q.write b p with
    |none=>simp[J]at h|some bO=>
     simp only[J,aD,aO]at h;obtain⟨rfl,rfl⟩:=h;refine⟨x.tF J,fun ok=>?_⟩;obtain⟨h1,h2,h3⟩:=U (zZ J ok);rcases O with O|⟨e,K,rfl,bf⟩
     ·omega
     ·rw[N.gM]at h1;have aq:=Cu (P:=P) (us:=us) (o:=(o.add (.c am)).v) ab x I J K (by rw[N.gM,aN];simp only[N.v]at h1 Z⊢;omega) h2 (fun f=>h3 ao f) aX;obtain⟨w',V,W,D⟩:=aq (Fs a4 _);refine⟨.slice (some (at' e.c (e.base+o.v))) (am+au) C,w',?_,W,fun F=>?_⟩
      ·refine z6 (ty:=ty) aw ax az hi aA aB (aF w (fun _=>rfl)) ae (.inr ⟨_,rfl,?_⟩);rw[oV,←V,N.gM,iD]
      ·obtain⟨s,D,X⟩:=D F;exact⟨s,.sl b o (.c (am+au)) (some (.c C)) _ C ae (fun bQ al=>by injection al with al;subst al;rfl) (.inr ⟨e,X.le b e K,rfl,bf⟩),D,by rw[←aa.H];exact X⟩
   ·split at h
    ·cases h
    rename_i L;have aj:C<am+au:=by
     rcases cu C (am+au)with h|h
     ·exact h
     ·rw[N3 h]at L;cases L
    split at h
    case h_2=>cases h
    rename_i a5 q Y;have a6:=Y;obtain⟨x,Y⟩:=Data.vt Y;cases E:a5.app an with
    |none=>simp[E]at h|some p=>
     simp only[E,aD,aO]at h;obtain⟨rfl,rfl⟩:=h;refine⟨fun o=>x.ok o,fun ok=>?_⟩;obtain⟨h1,h2,h3⟩:=Y ok;obtain⟨ag,ar⟩:=Data.Fy E;obtain⟨v,w',V,W,D⟩:=aZ g p m y.H M ⟨Ji a6,(Data.pZ E).2⟩ ap h1 (fun vs f=>ar (h3 _ _ f) ao) (by rw[ag,h2,Z]) aj ab (bJ.refl ..) rfl (.c (am+au)) rfl;refine⟨v,w',V,W,fun F=>?_⟩;obtain⟨s,D,X,a7⟩:=D F;refine⟨s,by rw[x.H];exact D,?_,?_⟩
     ·show aM G s (q.H++_) w';rw[x.H];exact X
     ·show bJ β S.H w s (q.H++_) w';rw[x.H,←aa.H];exact a7
 |none=>
  simp only[cg]at h;split at h
  case h_2=>cases h
  rename_i g m M;cases m<;>simp only[reduceCtorEq]at h;split at h
  case h_2=>cases h
  rename_i q a8;obtain⟨x,f⟩:=B.fT a8;cases E:g.app an with
  |none=>simp[E]at h|some p=>
   simp only[E,aD,aO]at h;obtain⟨rfl,rfl⟩:=h;refine⟨fun o=>x.ok o,fun ok=>?_⟩;have f:=f ok;rw[B.uZ,N.B5,N.B5,dI]at f;have a9:o.v=0:=by simpa[N.v]using f.1
   have ba:l.v=g.len:=by
    have:=f.2;cases l<;>simpa[N.v]using this
   obtain⟨ag,ar⟩:=Data.Fy E;have av:(q.kill b).H=y.H.set b ⟨.gen [],.bn⟩:=by simp[ai.kill,iN,x.H]
   have bm:aM G β (y.H.set b ⟨.gen [],.bn⟩) w:=ab.kill b _;by_cases L:l.v+n.v≤A
   ·rcases O with O|⟨e,K,rfl,bf⟩
    ·
      have b7:n.v=0:=by omega
      have aP:l.v=0:=by omega
      have bo:=bm.Py (d:=p) (by rw[ag,Z];omega);have bU:us=[]:=Bh (by omega);refine⟨.slice a (l.v+n.v) A,w,?_,ff.refl w,fun _=>⟨β,?_,?_,?_⟩⟩
      ·refine z6 (ty:=ty) aw ax az hi aA aB (aF w (fun _=>rfl)) L ?_;cases a with
       |none=>exact .inl ⟨rfl,rfl⟩|some a=>exact .inr ⟨a,rfl,by rw[bU];rfl⟩
      ·have:=aC.sl (β:=β) q.H.length (.c 0) (l.add n) none a A (by rw[N.gM];exact L) (fun C aJ=>by cases aJ) (.inl O);rw[N.gM]at this;exact this
      ·show aM G β ((q.kill b).H++_) w;rw[av];exact bo.1
      ·show bJ β S.H w β ((q.kill b).H++_) w;rw[av,←aa.H];exact(bJ.kill b _).trans bo.2
    ·have bV:r8 β g e w:=by
      rcases ab.blk b _ M (eo rfl)with⟨b8,bp,bW⟩|⟨_,F⟩
      ·rw[K]at bp;injection bp with Q;subst Q;exact bW
      ·rw[K]at F;cases F
     obtain⟨bX,bq,vs,bY,bx,bZ,b0,b1,bd,b2⟩:=bV;have aq:=Fl P e.c (o.v+l.v) bY bx us 0 ⟨vs⟩ w bZ b0 (by simp;omega) aX (fun k _ _=>(bq.tD (Data.pZ E).1).rT k true);simp only[gb]at aq;have a0:aK β p.list ((ay.over vs (o.v+l.v) us).take p.len):=by
      have:=ar b2 ao;have a1:vs.take g.len++us=(ay.over vs (o.v+l.v) us).take p.len:=by
       rw[ag,Z,a9,cM,ba];have b9:(vs.take g.len++us).length=g.len+n.v:=by rw[fB,pM,aN];omega
       show _=(vs.take g.len++us++vs.drop (g.len+us.length)).take (g.len+n.v);rw[HO (by omega)];exact(qy (by omega)).symm
      rw[←a1];exact this
     have br:=ab.move M K (ay.over vs (o.v+l.v) us) (by rw[Cs _ _ _ (by omega),b1]) (by rw[ag,Z];omega) a0 (fun c a8=>fI.of (a8.tD (Data.pZ E).1) (Data.pZ E).2) (.gen []);refine⟨.slice (some (at' e.c (e.base+o.v))) (l.v+n.v) A,w.setRow e.c ⟨ay.over vs (o.v+l.v) us⟩,?_,I7 w bq.mine _,fun _=>⟨β.put y.H.length e,?_,?_,?_⟩⟩
     ·refine z6 (ty:=ty) aw ax az hi aA aB (aF w (fun _=>rfl)) L (.inr ⟨_,rfl,?_⟩);rw[oV,show at' e.c (e.base+o.v+l.v)=⟨e.c,o.v+l.v,none⟩ by simp[at',bX]];exact aq
     ·have b3:q.H.length=y.H.length:=by rw[x.H]
      have:=aC.sl (β:=β.put y.H.length e) q.H.length (.c 0) (l.add n) none (some (at' e.c (e.base+o.v))) A (by rw[N.gM];exact L) (fun C aJ=>by cases aJ)
       (.inr ⟨e,by rw[b3];exact aE.gq ..,by rw[a9];rfl,by show 0+A≤e.room;omega⟩)
      rw[N.gM]at this;exact this
     ·show aM G _ ((q.kill b).H++_) _;rw[av];exact br.1
     ·show bJ β S.H w _ ((q.kill b).H++_) _;rw[av,←aa.H];exact br.2
   ·obtain⟨v,w',V,W,D⟩:=aZ g p .own (y.H.set b ⟨.gen [],.bn⟩) M (Data.pZ E) (by intro h;cases h) (by omega)
     (fun vs f=>ar (by rw[a9,ba,HX,qy (by rw[Data.jx];exact aV _)]at f;exact f) ao) (by rw[ag,Z,ba]) (by omega) bm (bJ.kill b _) (by simp) (l.add n) (N.gM ..)
    refine⟨v,w',V,W,fun F=>?_⟩;obtain⟨s,D,X,a7⟩:=D F;refine⟨s,by rw[x.H];exact D,?_,?_⟩
    ·show aM G s ((q.kill b).H++_) w';rw[av];exact X
    ·show bJ β S.H w s ((q.kill b).H++_) w';rw[av,←aa.H];exact a7
end
end
section
variable [aR][aG]
section
variable{P:Program}{G:Nat→Option (List af)}{β:aE}{w:World}
def Fz{t a:TypeId}{b:Nat}(h:zi P t=some (a,b)):P.underlying t=some (.slice a)∧eg P a=some b:=by
 unfold zi at h;split at h
 ·rename_i e c;simp only[bT,aO]at h;obtain⟨f,d,rfl,rfl⟩:=h;exact⟨c,d⟩
 ·cases h
def PC{d:Option TypeDesc}(h:Er d=true):∃a,d=some a∧xI a:=by
 unfold Er at h;split at h
 ·exact⟨_,rfl,.inl ⟨_,rfl⟩⟩
 ·exact⟨_,rfl,.inr rfl⟩
 ·cases h
def YI{al:List TypeId}{am:List af}{vs:List Value}{ty:TypeId}{K:af}{S k:ai}(h:BH P al am S=some (K,k))(ax:aK β am vs)(L:aM G β S.H w):
 (k.ok→S.ok)∧(k.ok→Does P G β S w (Builtin.append_ ⟨al⟩ ty ⟨vs⟩) K k):=by
 unfold BH at h;split at h
 case h_2=>cases h
 rename_i t u;split at h
 case h_2=>cases h
 rename_i x ay;obtain⟨M,az⟩:=Fz ay;split at h
 case h_1=>cases h
 case h_2=>cases h
 rename_i i aT hi aA;obtain⟨aB,z,m,an,_,_,X⟩:=tG aA β;rw[hi]at m;injection m with m;subst m;obtain⟨aB,m,D⟩:=Cr az;rw[hi]at m;injection m with m;subst m;rw[D]at X;split at h
 ·cases h
 rename_i E;have E:i.bytes≠0:=by intro x;rw[x]at E;cases E
 split at h
 ·cases h
 rename_i y;obtain⟨d,y,O⟩:=PC y;split at h
 case h_2=>cases h
 rename_i aU a;obtain⟨aW,aX,rfl,ao,aF⟩:=ax.cons_inv;obtain⟨aH,aY,rfl,F,aI⟩:=aF.cons_inv;have:=aI.r7;subst this;cases o:js a with
 |none=>simp[o]at h|some n=>
  simp only[o]at h;cases Q:lg a n S with
  |none=>simp[Q]at h|some r=>
   obtain⟨Y,R⟩:=r;simp only[Q]at h;have aJ:=YG Q;obtain⟨p,T⟩:=Px (P:=P) Q F o (aV _) L;split at h
   ·cases h
   rename_i aL;split at h
   ·
     cases ao;have ap:∀e:ai,(n.ir i.bytes).fits.cj R=some e→some (af.sl e.H.length (.c 0) n none,(e.new Y).2)=some (K,k)→(k.ok→S.ok)∧(k.ok→Does P G β S w (Builtin.append_ ⟨[t,u]⟩ ty ⟨[Value.slice none 0 0,aH]⟩) K k):=by
      intro e f h;simp only[aD,aO]at h;obtain⟨rfl,rfl⟩:=h;obtain⟨j,Z⟩:=B.fT f;refine⟨fun aq=>p.ok (j.ok aq),fun ok=>?_⟩;have g:=Z ok;rw[N.fits,N.jO,N.u0]at g;have g:=bg g;have g:n.v*i.bytes≤1099511627776:=g;obtain⟨U,us,V,I,A⟩:=T (j.ok ok);have ar:aM G β e.H w:=by rw[j.H,p.H];exact L
      by_cases au:n.v=0
      ·have aa:=ar.Py (d:=Y) (by omega);have aZ:us=[]:=Bh (by omega);refine⟨.slice none 0 0,w,?_,ff.refl w,fun _=>⟨β,?_,aa.1,?_⟩⟩
       ·have:=z6 (P:=P) (w:=w) (ty:=ty) (base:=none) (sLen:=0) (sCap:=0) (w':=w) M y O hi D (fun w=>vu o F w) (A w (fun _=>rfl)) (by omega) (.inl ⟨rfl,rfl⟩);rw[au]at this;exact this
       ·have:=aC.sl (β:=β) e.H.length (.c 0) n none none 0 (by omega) (fun C ab=>by cases ab) (.inl rfl);rw[au]at this;exact this
       ·rw[j.H,p.H]at aa;show bJ β S.H w β (e.H++_) w;rw[j.H,p.H];exact aa.2
      ·have av:=Pz (P:=P) (w:=w) (base:=none) (sLen:=0) (sCap:=0) (olds:=[]) (ty:=ty) M y O hi an D (fun w=>vu o F w) (A w.drew (fun _=>rfl)) (xF P _ 1 0 _ _) (by omega) (by rw[cM];exact g) E;simp only[cM,jK]at av;have aN:=Jk w n.v 0 x;have aP:(Builtin.zeroCells z.cells (grownCap w n.v 0 x-n.v)).toList.length=grownCap w n.v 0 x-n.v:=by simp[Builtin.zeroCells,X]
       have W:=ar.drew.new Y (us++(Builtin.zeroCells z.cells (grownCap w n.v 0 x-n.v)).toList) x (by rw[fB];omega)
        (by rw[U,←V,Wc];exact I)
       refine⟨_,_,av,I9 _ _,fun o=>?_⟩;have W:=W (fI.of (I8 o) aJ);refine⟨_,?_,W.1,?_⟩
       ·exact .sl e.H.length (.c 0) n none (some (at' w.heap.size 0)) (grownCap w n.v 0 x) aN (fun C ab=>by cases ab) (.inr ⟨_,aE.gq ..,rfl,by
         show 0+_≤(us++_).length;rw[fB,aP];omega⟩)
       ·show bJ β S.H w _ (e.H++_) _;have:=(bJ.drew β e.H w).trans W.2;rw[j.H,p.H]at this⊢;exact this
     cases n with
     |c J=>
      cases J with
      |zero=>
       simp only[aD,aO]at h;obtain⟨rfl,rfl⟩:=h;refine⟨p.ok,fun ok=>?_⟩;obtain⟨U,us,V,I,A⟩:=T ok;refine Does.pure L p (v:=.slice none 0 0) ?_ .cD;exact z6 (P:=P) (w:=w) (ty:=ty) (base:=none) (sLen:=0) (sCap:=0) (w':=w) M y O hi D (fun w=>vu o F w) (A w (fun _=>rfl)) (by simp[N.v]) (.inl ⟨rfl,rfl⟩)
      |succ J=>
       simp only at h;cases f:(N.ir (.c (J+1)) i.bytes).fits.cj R with
       |none=>simp[f]at h|some e=>simp only[f]at h;exact ap e f h
     |s J=>
      simp only at h;cases f:(N.ir (.s J) i.bytes).fits.cj R with
      |none=>simp[f]at h|some e=>simp only[f]at h;exact ap e f h
   ·rename_i b aq l aQ;cases f:((l.add n).ir i.bytes).fits.cj R with
    |none=>simp[f]at h|some e=>
     simp only[f]at h;obtain⟨j,Z⟩:=B.fT f;have mono:k.ok→e.ok:=by
      intro ok;clear T;unfold zm at h;cases aQ with
      |some C=>
       simp only at h;split at h
       case h_2=>
        split at h
        ·cases h
        ·rename_i ad;obtain⟨ae,_⟩:=B.oO ad;split at h
         ·cases h
         rename_i ag;obtain⟨aS,_⟩:=B.fT ag;split at h
         ·cases h
         split at h
         case h_2=>cases h
         rename_i ah;obtain⟨q,_⟩:=Data.pY ah;split at h
         case h_2=>cases h
         rename_i aj;simp only[aD,aO]at h;obtain⟨_,rfl⟩:=h;exact ae.ok (aS.ok (q.tF aj ok))
        ·rename_i ad;obtain⟨ae,_⟩:=B.oO ad;split at h
         ·cases h
         split at h
         case h_2=>cases h
         rename_i ak;obtain⟨q,_⟩:=Data.vt ak;split at h
         case h_2=>cases h
         simp only[aD,aO]at h;obtain⟨_,rfl⟩:=h;exact ae.ok (q.ok ok)
       split at h
       ·cases h
       ·split at h
        ·split at h
         case h_2=>cases h
         rename_i ah;obtain⟨q,_⟩:=Data.pY ah;split at h
         case h_2=>cases h
         rename_i aj;simp only[aD,aO]at h;obtain⟨_,rfl⟩:=h;exact q.tF aj ok
        ·split at h
         ·cases h
         ·split at h
          case h_2=>cases h
          rename_i ak;obtain⟨q,_⟩:=Data.vt ak;split at h
          case h_2=>cases h
          simp only[aD,aO]at h;obtain⟨_,rfl⟩:=h;exact q.ok ok
      |none=>
       simp only at h;split at h
       case h_2=>cases h
       split at h
       case h_2=>cases h
       split at h
       case h_2=>cases h
       rename_i ag;obtain⟨q,_⟩:=B.fT ag;split at h
       case h_2=>cases h
       simp only[aD,aO]at h;obtain⟨_,rfl⟩:=h;exact q.ok ok
     refine⟨fun ok=>p.ok (j.ok (mono ok)),fun ok=>?_⟩;have aw:=mono ok;obtain⟨U,us,V,I,A⟩:=T (j.ok aw);have g:=Z aw;rw[N.fits,N.jO,N.u0,N.gM]at g;have g:=bg g;have g:(l.v+n.v)*i.bytes≤1099511627776:=g;exact(YH (ty:=ty) M y O hi an D X E (fun w=>vu o F w) A V U I (Jj aL I) ao L (p.trans j) g h).2 ok
   ·cases h
def YJ{aj:List TypeId}{ak:List af}{vs:List Value}{ty:TypeId}{e:af}{S J:ai}(h:zn P aj ak S=some (e,J))(T:aK β ak vs)(U:aM G β S.H w):
 (J.ok→S.ok)∧(J.ok→Does P G β S w (Builtin.copy_ ⟨aj⟩ ty ⟨vs⟩) e J):=by
 unfold zn at h;split at h
 case h_2=>cases h
 rename_i t aH;split at h
 case h_2=>cases h
 rename_i j aB;obtain⟨V,W⟩:=Fz aB;split at h
 case h_2=>cases h
 rename_i d a;obtain⟨bd,bg,rfl,al,u⟩:=T.cons_inv;obtain⟨aC,bh,rfl,K,aF⟩:=u.cons_inv;have:=aF.r7;subst this;cases n:js d with
 |none=>simp[n]at h|some l=>
  cases x:js a with
  |none=>simp[n,x]at h|some m=>
   simp only[n,x]at h;cases X:lg a (m.min l) S with
   |none=>simp[X]at h|some r=>
    obtain⟨bi,q⟩:=r;simp only[X]at h;have L:(m.min l).v=Nat.min m.v l.v:=N.WY m l;obtain⟨y,am⟩:=Px (P:=P) X K x (by rw[L];exact Bm _ _) U;split at h
    ·cases h
    rename_i aJ;split at h
    ·rename_i b o s bj;simp only[js,aD]at n;subst n;cases u:q.read b with
     |none=>simp[u]at h|some aL=>
      simp only[u]at h;split at h
      case h_2=>cases h
      rename_i d' bk M;have Y:=M;obtain⟨z,M⟩:=Data.pY M;split at h
      case h_2=>cases h
      rename_i an A;simp only[aD,aO]at h;obtain⟨rfl,rfl⟩:=h;refine⟨fun ok=>y.ok (z.tF A ok),fun ok=>?_⟩;obtain⟨aN,us,aP,O,Z⟩:=am (z.tF A ok);obtain⟨h1,h2,h3⟩:=M (zZ A ok);obtain⟨base,aQ,rfl,bl,bm,ao⟩:=al.pW;have i:aM G β q.H w:=by rw[y.H];exact U
      have ap:∀w',(base=none∧w'=w∨∃p,base=some p∧(storeCells p us).aI P w=.ok () w')→(Builtin.copy_ ⟨t::aH⟩ ty ⟨[Value.slice base s.v aQ,aC]⟩).aI P w=.ok (.int .i64 ((m.min s).toZ).v) w':=by
       intro w' B;have j:Nat.min m.v s.v=(m.min s).v:=L.symm;have C:=Z w (fun _=>rfl);rcases B with⟨rfl,rfl⟩|⟨p,rfl,B⟩
       ·simp[Builtin.copy_,cN V,hJ W,vu x K,j,C,goInt,N.toZ_v]
       ·simp[Builtin.copy_,cN V,hJ W,vu x K,j,C,B,goInt,N.toZ_v]
      rcases ao with ao|⟨Q,aa,rfl,bf⟩
      ·
        have aq:(m.min s).v=0:=by rw[L];have:Nat.min m.v s.v≤s.v:=Bn _ _;omega
        have ar:us=[]:=Bh (by omega);obtain⟨bn,au,aS,_⟩:=ai.zY A;obtain⟨bo,R,bp⟩:=ai.r9 u;rw[z.H,R]at au;injection au with ab;injection ab with ab aT;subst ab aT;have aU:b<q.H.length:=by
         rcases cu b q.H.length with h|h
         ·exact h
         ·simp[dz h]at R
        have av:aM G β an.H w∧bJ β q.H w β an.H w:=by
         rw[aS,z.H];rcases i.blk b _ R (eo rfl)with⟨Q,aa,aW⟩|⟨aX,D⟩
         ·obtain⟨bq,br,vs,aY,bx,aZ,bs,a0,a1,a2⟩:=aW;have aw:=i.write (d':=d') R aa vs a0 (by rw[h2];exact a1) (by
           have:=h3 (us:=[]) (vs:=vs.take aL.len) (by rw[←ar];exact O) a2;rw[h2];simpa[ay.over]using this) (fun c ax=>fI.of (ax.tD (Fr Y).1) (Fr Y).2)
          rw[setRow_self w Q.c ⟨vs⟩ aY bx aZ]at aw;exact aw
         ·have E:∀(e:Nat) k,(q.H.set b ⟨d',.own⟩)[e]? =some k→(e=b∧k=⟨d',.own⟩)∨(e≠b∧q.H[e]? =some k):=by
           intro e k f;by_cases j:e=b
           ·subst j;rw[pL aU]at f;injection f with f;exact .inl ⟨rfl,f.symm⟩
           ·rw[mw (fC j)]at f;exact .inr ⟨j,f⟩
          refine⟨⟨?_,?_,fun e Q h=>by simpa using i.fl e Q h,i.dA,?_⟩,⟨aE.le_refl β,by simp,rfl,rfl,rfl,aV _,fun _ _ _=>bL.refl _ _,?_,fun _ _=>rfl⟩⟩
          ·intro e k f T;rcases E e k f with⟨rfl,rfl⟩|⟨ad,f⟩
           ·exact .inr ⟨by simp only[h2];exact aX,D⟩
           ·exact i.blk e k f T
          ·intro e az k aA F a3 a4 f ae I a5 g ag;rcases E e k f with⟨rfl,rfl⟩|⟨ad,f⟩
           ·rw[D]at g;cases g
           ·rcases E az aA ae with⟨rfl,rfl⟩|⟨bt,ae⟩
            ·rw[D]at ag;cases ag
            ·exact i.dL e az k aA F a3 a4 f ae I a5 g ag
          ·intro e k F f I g;rcases E e k f with⟨rfl,rfl⟩|⟨ad,f⟩
           ·rw[D]at g;cases g
           ·exact i.apart e k F f I g
          ·intro c ax ⟨e,k,F,f,I,g,a6⟩;rcases E e k f with⟨rfl,rfl⟩|⟨ad,f⟩
           ·rw[D]at g;cases g
           ·exact⟨e,k,F,f,I,g,a6⟩
        refine⟨_,w,ap w ?_,ff.refl w,fun _=>⟨β,.num (.int .i64 _),av.1,by rw[←y.H];exact av.2⟩⟩;cases base with
        |none=>exact .inl ⟨rfl,rfl⟩|some p=>exact .inr ⟨p,rfl,by rw[ar];rfl⟩
      ·have B:=Cu (P:=P) (us:=us) (o:=o.v) i z u A aa (by omega) h2 (fun a7=>h3 O a7) (Jj aJ O);obtain⟨w',a8,a9,ah⟩:=B (Fs Y _);exact⟨_,w',ap w' (.inr ⟨_,rfl,a8⟩),a9,fun ba=>let⟨bb,ah,bc⟩:=ah ba;⟨bb,.num (.int .i64 _),ah,by rw[←y.H];exact bc⟩⟩
    ·simp only[js,aD]at n;subst n;simp only[aD,aO]at h;obtain⟨rfl,rfl⟩:=h;refine⟨y.ok,fun ok=>?_⟩;obtain⟨aN,us,aP,O,Z⟩:=am ok;cases al;have aq:(m.min (.c 0)).v=0:=by rw[L];simp[N.v]
     have C:=Z w (fun _=>rfl);rw[aq]at C;refine Does.pure U y (v:=.int .i64 0) ?_ (.num (.int .i64 (.c 0)));simp[Builtin.copy_,cN V,hJ W,vu x K,C,goInt]
    ·cases h
end
section
variable{P:Program}{G:Nat→Option (List af)}{β:aE}{w:World}
def PD(a:Nat):∀(l:List Value) (k:Nat) (cs:Array Value),a+k+l.length≤cs.size→
 ((l.zipIdx k).foldl (fun(cs:Array Value) (p:Value×Nat)=>cs.setIfInBounds (a+p.2) p.1) cs).toList=ay.over cs.toList (a+k) l
 |[],k,cs,h=>by simp[ay.over]|v::l,k,cs,h=>by
  simp only[List.zipIdx_cons,NT];rw[PD a l (k+1) _ (by simp at h⊢;omega),V5];have:=list_seg_step cs.toList (a+k) v l (by simp at h⊢;omega);simpa[ay.over,iD]using this
def FA(place:Nat→Option (Nat×Nat)):∀(a:List (Nat×af)) (vs:List (Nat×Value)) (d:List (Nat×Nat×af)) (cells:List af) (cs:Array Value) (r:List af),
 rQ cells d=some r→aK β cells cs.toList→a.length=vs.length→(∀(i:Nat) p v,a[i]? =some p→vs[i]? =some v→p.1=v.1∧aC β p.2 v.2)→
 a.length=d.length→(∀(i:Nat) p q,a[i]? =some p→d[i]? =some q→place p.1=some (q.1,q.2.1)∧q.2.2=p.2)→
 ∃e,Instr.fill place cs vs=some e∧aK β r e.toList
 |[],[],[],cells,cs,r,h,f,_,_,_,_=>by simp[rQ]at h;subst h;exact⟨cs,rfl,f⟩|p::a,v::vs,q::d,cells,cs,r,h,f,h1,h2,h3,h4=>by
  obtain⟨b,size,F⟩:=q;obtain⟨i,u⟩:=v;obtain⟨l,g⟩:=h2 0 p _ rfl rfl;obtain⟨m,n⟩:=h4 0 p _ rfl rfl;simp only at l m n g;subst n;simp only[rQ]at h;cases j:p.2.row with
  |none=>simp[j]at h|some o=>
   simp only[j]at h;have s:=Jc j g;split at h
   case h_2=>cases h
   rename_i k;have k:o.length=size:=by simpa using k
   cases c:nk o b cells with
   |none=>simp[c]at h|some H=>
    simp only[c]at h;obtain⟨I,rfl⟩:=Fb _ _ _ _ c;have x:=f.1;have y:=s.1;have t:u.cells.size=size:=by rw[←k,y];simp
    have z:b+u.cells.size≤cs.size:=by
     have:cells.length=cs.size:=by rw[x];simp
     omega
    have A:(u.cells.zipIdx.foldl (fun cs (p:Value×Nat)=>cs.setIfInBounds (b+p.2) p.1) cs).toList=ay.over cs.toList b u.cells.toList:=by
     rw[←Wd,Array.toList_zipIdx];have:=PD b u.cells.toList 0 cs (by simpa using z);simpa using this
    obtain⟨e,B,C⟩:=FA place a vs d _ (u.cells.zipIdx.foldl (fun cs (p:Value×Nat)=>cs.setIfInBounds (b+p.2) p.1) cs) r h
     (by rw[A];exact aK.over f s b) (by simpa using h1) (fun i p v c g=>h2 (i+1) p v (by simpa using c) (by simpa using g)) (by simpa using h3) (fun i p q c D=>h4 (i+1) p q (by simpa using c) (by simpa using D))
    refine⟨e,?_,C⟩;rw[←B];have E:¬(cs.size<b+u.cells.size):=by omega
    simp[Instr.fill,←l,m,t,t▸E]
 |[],v::vs,_,_,_,_,_,_,h1,_,_,_=>by simp at h1|p::a,[],_,_,_,_,_,_,h1,_,_,_=>by simp at h1|[],[],q::d,_,_,_,_,_,_,_,h3,_=>by simp at h3|p::a,v::vs,[],_,_,_,_,_,_,_,h3,_=>by simp at h3
def FB(β:aE)(a:List (Nat×af))(vs:List (Nat×Value)):Prop:=a.length=vs.length∧∀(i:Nat) p v,a[i]? =some p→vs[i]? =some v→p.1=v.1∧aC β p.2 v.2
def run_places(fields:List Field)(places:List (Nat×Nat))(h:cU (fun(f:Field)=>(eg P f.type).map fun a=>(f.offset,a)) fields=some places)(w:World):
 (fields.mapM fun(f:Field)=>(Functor.map (Prod.mk f.offset) (sizeOf f.type):Sem (Nat×Nat))).aI P w=.ok places w:=by
 induction fields generalizing places with
 |nil=>simp[cU]at h;subst h;rfl|cons f fields d=>
  simp only[cU]at h;cases b:eg P f.type with
  |none=>simp[b]at h|some a=>
   simp only[b,ig]at h;cases c:cU (fun(f:Field)=>(eg P f.type).map fun a=>(f.offset,a)) fields with
   |none=>simp[c]at h|some r=>
    simp only[c,aD]at h;subst h;simp[We,hJ b,d r c]
def YK{d e:Type}{f:d→Option e}{l:List d}{r:List e}(h:cU f l=some r)(i:Nat)(j:d)(k:e)(c:l[i]? =some j)(g:r[i]? =some k):f j=some k:=by
 induction l generalizing r i with
 |nil=>simp at c|cons a l m=>
  simp only[cU]at h;cases h1:f a with
  |none=>simp[h1]at h|some b=>
   cases h2:cU f l with
   |none=>simp[h1,h2]at h|some n=>
    simp[h1,h2]at h;subst h;cases i with
    |zero=>simp at c g;subst c g;exact h1|succ i=>exact m h2 i (by simpa using c) (by simpa using g)
def YL{t:TypeId}{a:List (Nat×af)}{vs:List (Nat×Value)}{y:af}{S:ai}(h:Ii P t a=some y)(d:FB β a vs)(A:aM G β S.H w):
 Does P G β S w (Instr.build t ⟨vs⟩) y S:=by
 unfold Ii at h;cases j:mH P t with
 |none=>simp[j]at h|some B=>
  simp only[j]at h;obtain⟨i,z,hi,C,D,_,_⟩:=tG j β;split at h
  ·rename_i fields k;cases l:cU (fun(f:Field)=>(eg P f.type).map fun b=>(f.offset,b)) fields.toList with
   |none=>simp[l]at h|some places=>
    simp only[l]at h;cases e:cU (fun(p:Nat×af)=>(aW p.1 places).map fun q=>(q.1,q.2,p.2)) a with
    |none=>simp[e]at h|some E=>
     simp only[e,bT]at h;obtain⟨r,m,rfl⟩:=h;obtain⟨c,o,s⟩:=FA (β:=β) (fun i=>places[i]?) a vs E B z.cells r m D d.1 d.2 (tE e).symm (fun i p q u g=>by
      have:=YK e i p q u g;simp only[bT]at this;obtain⟨J,h1,h2⟩:=this;rw[cg]at h1;subst h2;exact⟨h1,rfl⟩)
     refine Does.pure A (Pure.refl _) (v:=.agg c) ?_ (by cases c;exact aC.zW s);have F:=run_places (P:=P) fields.toList places l w;simp[Instr.build,zeroValue,typeInfo,hi,C,cN k,N4,F,o]
  ·rename_i n I k;cases x:eg P I with
   |none=>simp[x]at h|some b=>
    simp only[x,bT]at h;obtain⟨r,m,rfl⟩:=h;obtain⟨c,o,s⟩:=FA (β:=β) (fun i=>some (i*b,b)) a vs (a.map fun p=>(p.1*b,b,p.2)) B z.cells r m D d.1 d.2 (by simp) (fun i p q u g=>by
     simp only[ef,u,ig,aD]at g;subst g;exact⟨rfl,rfl⟩)
    refine Does.pure A (Pure.refl _) (v:=.agg c) ?_ (by cases c;exact aC.zW s);simp[Instr.build,zeroValue,typeInfo,hi,C,cN k,hJ x,o]
  ·cases h
end
end
section
variable [aR][aG]
variable{Q:af}{S:ai}{t:TypeId}{R:ai}{vs:List Value}{a:af}{T:Value}{ty:TypeId}{n:Nat}{U:List (Nat×af)}{ts:List TypeId}{V:List af}
section
variable{P:Program}{G:Nat→Option (List af)}{β:aE}{w:World}
def PE{vs:List (Nat×Value)}(h:tg P t n U S=some (Q,R))(s:FB β U vs):
 ∃(r:List af) (e:Array Value) (d:TypeId),R=(S.new (.gen r)).2∧Q=.ref (.sl S.H.length (.c 0) (.c n) (some (.c n)))∧aK β r e.toList∧n≤e.toList.length∧
  ∀w:World,(Instr.buildSlice t n ⟨vs⟩).aI P w=.ok (.slice (some (at' w.heap.size 0)) n n) (w.alloc (.cells e d)):=by
 unfold tg at h;split at h
 case h_2=>cases h
 rename_i d b I;obtain⟨J,u⟩:=Fz I;split at h
 ·cases h
 rename_i j;have k:¬n*b=0:=by intro d;rw[d]at j;cases j
 have j:b≠0:=by intro d;rw[d]at k;simp at k
 split at h
 ·cases h
 rename_i x;have x:n*b≤2^24:=Wf x;cases l:mH P d with
 |none=>simp[l]at h|some K=>
  simp only[l]at h;obtain⟨i,z,hi,L,M,N,y⟩:=tG l β;obtain⟨ag,f,m⟩:=Cr u;rw[hi]at f;injection f with f;subst f;split at h
  case h_2=>cases h
  rename_i r A;simp only[aD,aO]at h;obtain⟨rfl,rfl⟩:=h;have B:=Pp M n;rw[y,m]at B;obtain⟨e,C,D⟩:=FA (β:=β) (fun i=>some (i*b,b)) U vs (U.map fun p=>(p.1*b,b,p.2)) _ (madeCells z.cells (n*b)) r A B s.1 s.2 (by simp) (fun i p q O E=>by
   simp only[ef,O,ig,aD]at E;subst E;exact⟨rfl,rfl⟩)
  have W:e.toList.length=n*b:=by
   have X:r.length=(List.replicate n K).flatten.length:=by
    have:∀(g:List (Nat×Nat×af)) (cells r:List af),rQ cells g=some r→r.length=cells.length:=by
     intro g
     induction g with
     |nil=>intro cells r h;simp[rQ]at h;subst h;rfl|cons q g Y=>
      intro cells r h;obtain⟨Z,size,v⟩:=q;simp only[rQ]at h;cases F:v.row with
      |none=>simp[F]at h|some aa=>
       simp only[F]at h;split at h
       case h_2=>cases h
       cases o:nk aa Z cells with
       |none=>simp[o]at h|some ah=>
        simp only[o]at h;obtain⟨ab,rfl⟩:=Fb _ _ _ _ o;rw[Y _ _ h,Cs _ _ _ ab]
    exact this _ _ _ A
   rw[←D.1,X,List.length_flatten];simp[N,m]
  refine⟨r,e,d,rfl,rfl,D,?_,fun w=>?_⟩
  ·rw[W];exact Ee _ (by omega)
  ·have aj:(if n*b=0 then(#[]:Array Value)else z.cells).size=(if n*b=0 then 0 else b):=by split<;>simp[y,m]
   have ad:¬(16777216<n*b):=by omega
   have ae:madeCells z.cells (n*b)=(Array.range (n*b)).map (fun i=>z.cells[i%z.cells.size]!):=rfl;rw[ae]at C;simp[Instr.buildSlice,cN J,hJ u,k,ad,zeroValue,typeInfo,hi,L,C,newRow,at']
def YM{vs:List (Nat×Value)}(h:tg P t n U S=some (Q,R))(e:FB β U vs)(f:aM G β S.H w):
 (R.ok→S.ok)∧Does P G β S w (Instr.buildSlice t n ⟨vs⟩) Q R:=by
 obtain⟨r,c,d,rfl,rfl,g,k,bf⟩:=PE h e;refine⟨fun i=>i,.slice (some (at' w.heap.size 0)) n n,w.alloc (.cells c d),bf w,vo _ _,fun j=>⟨_,?_,Jf f d g (xE j)⟩⟩;refine .sl _ _ _ _ _ _ (aV _) (fun C b=>by injection b with b;subst b;rfl) (.inr ⟨_,aE.gq ..,rfl,?_⟩)
 show 0+n≤c.toList.length;omega
def Jl{f:List af}{d:Nat}(h:partOf P t f d=some Q)(g:aK β f vs)(w:World):
 ∃v,(part t ⟨vs⟩ d).aI P w=.ok v w∧aC β Q v:=by
 unfold partOf at h;cases c:nq P t with
 |none=>simp[c]at h|some b=>
  cases b with
  |true=>
   simp only[c]at h;cases e:eg P t with
   |none=>simp[e]at h|some i=>
    simp only[e,bT]at h;obtain⟨r,j,rfl⟩:=h;obtain⟨h1,rfl⟩:=Cn _ _ _ _ j;refine⟨.agg ⟨(vs.drop d).take i⟩,?_,aC.zW ((g.drop d).take i)⟩;simp[part,vq c,hJ e,List.take_drop]
  |false=>
   simp only[c,cg]at h;obtain⟨v,h1,h2⟩:=g.get h;refine⟨v,?_,h2⟩;simp[part,vq c,h1]
def YN{f:Nat}(h:Ij P t a f=some Q)(c:aC β a T)(d:aM G β S.H w):
 Does P G β S w (Instr.field t T f) Q S:=by
 unfold Ij at h;split at h
 case h_2=>cases h
 rename_i fields e;split at h
 case h_2=>cases h
 rename_i k;rw[cg]at h;cases b:fields.toList[f]? with
 |none=>simp[b]at h|some g=>
  simp only[b]at h;have i:fields[f]? =some g:=by simpa using b
  obtain⟨vs,rfl,j⟩:=c.xD;obtain⟨v,h1,h2⟩:=Jl (P:=P) h j w;refine Does.pure d (Pure.refl _) ?_ h2;simp[Instr.field,cN e,i,asAgg,h1]
def PF(b:ByteArray)(n:Nat):b[n]? =b.data.toList[n]? :=by
 rw[HY];by_cases h:n<b.size
 ·rw[getElem?_pos b n h,getElem?_pos b.data n h];rfl
 ·rw[getElem?_neg b n h,getElem?_neg b.data n h]
def PG{j β:Type}{f:j→Option β}:∀{d:List j} {l:List β},cU f d=some l→d.length=l.length∧∀(i:Nat) b,l[i]? =some b→∃Q,d[i]? =some Q∧f Q=some b
 |[],l,h=>by simp only[cU,aD]at h;subst h;exact⟨rfl,fun i b k=>by simp at k⟩|Q::r,l,h=>by
  simp only[cU]at h;cases c:f Q with
  |none=>simp[c]at h|some b=>
   cases e:cU f r with
   |none=>simp[c,e]at h|some m=>
    simp only[c,e,aD]at h;subst h;obtain⟨h1,h2⟩:=PG e;refine⟨by simp[h1],fun i z g=>?_⟩;cases i with
    |zero=>simp at g;subst g;exact⟨Q,rfl,c⟩|succ i=>exact h2 i z (by simpa using g)
def YO{i:af}{J:Value}(h:zo P t a i S=some (Q,R))(A:aC β a T)(hi:aC β i J)(y:aM G β S.H w):
 Pure S R∧(R.ok→Does P G β S w (Instr.index t T J) Q R):=by
 unfold zo at h;cases B:i.bF with
 |none=>simp[B]at h|some z=>
  simp only[B]at h;obtain⟨k,rfl⟩:=af.vr B hi;split at h
  case h_3=>cases h
  case h_2 q=>
   split at h
   case h_2=>cases h
   rename_i e;cases A;cases z with
   |c z=>
    simp only at h;split at h
    case h_2=>cases h
    rename_i f;rw[uX]at f;have g:0≤z:=bg f;rw[cg]at h;cases j:e.data.toList[z.toNat]? with
    |none=>simp[j]at h|some b=>
     simp only[j,aD,aO]at h;obtain⟨rfl,rfl⟩:=h;refine⟨Pure.refl _,fun _=>Does.pure (v:=.int .u8 (b.toNat:Int)) y (Pure.refl _) ?_ (aC.num (.int .u8 (.c b.toNat)))⟩;have C:e.data[z.toNat]? =some b:=by rw[←HY];exact j
     simp[Instr.index,cN q,asIntOf,Z.v,g,PF,C]
   |s d=>
    simp only at h;cases m:(jM (.s d) (.c e.size)).cj S with
    |none=>simp[m]at h|some N=>
     simp only[m,aD,aO]at h;obtain⟨rfl,rfl⟩:=h;obtain⟨u,D⟩:=z3 m;refine⟨u,fun ok=>?_⟩;obtain⟨g,p⟩:=D ok;simp only[Z.v]at g p;have x:d.toNat<e.data.toList.length:=by
      have h1:e.data.toList.length=e.size:=by rw[Ef];rfl
      rw[h1];omega
     obtain⟨b,j⟩:∃b,e.data.toList[d.toNat]? =some b:=⟨_,bX x⟩;have E:(BitVec.ofNat 8 b.toNat).toNat=b.toNat:=by
      rw[g7];exact dO b.toNat_lt
     refine Does.pure (v:=.int .u8 (b.toNat:Int)) y u ?_ ?_
     ·have C:e.data[d.toNat]? =some b:=by rw[←HY];exact j
      simp[Instr.index,cN q,asIntOf,Z.v,g,PF,C]
     ·have:=aC.num (β:=β) (.bP (Il e d));simpa[Il,bk.val,bk.k,bk.z,Z.v,dY,j,E]using this
  rename_i n F q;split at h
  case h_2=>cases h
  rename_i K;cases z with
  |s d=>
   simp only at h;cases o:eg P F with
   |none=>simp[o]at h|some e=>
   simp only[o]at h;split at h
   case h_2=>cases h
   rename_i j;cases I:cU af.fF K with
   |none=>simp[I]at h|some l=>
   simp only[I]at h;split at h
   case h_2=>cases h
   rename_i f;rw[dI]at f;have O:e=1:=qz f.1;have ae:l.length=n:=qz f.2;subst O;cases m:(jM (.s d) (.c (n:Int))).cj S with
   |none=>simp[m]at h|some N=>
   simp only[m,aD,aO]at h;obtain⟨rfl,rfl⟩:=h;obtain⟨u,D⟩:=z3 m;refine⟨u,fun ok=>?_⟩;obtain⟨g,p⟩:=D ok;simp only[Z.v]at g p;obtain⟨ag,W⟩:=PG I;have L:d.toNat<l.length:=by omega
   obtain⟨Q,E,M⟩:=W d.toNat _ (bX L);obtain⟨vs,rfl,x⟩:=A.xD;have X:partOf P F K (d.toNat*1)=some Q:=by
    unfold partOf;rw[j];simp only;rw[cg,y4];exact E
   obtain⟨v,h1,h2⟩:=Jl (P:=P) X x w;have Y:v=.int .u64 (l.getD d.toNat 0#64).toNat:=by
    cases Q with
    |num aa=>
     have ab:aa.fF=some l[d.toNat]:=M;rw[h2.num_inv,bk.oP ab];simp[dY,L]
    |_=>cases M
   refine Does.pure (v:=v) y u ?_ (by rw[Y];exact .num (.av (l.getD d.toNat 0#64)));simp[Instr.index,cN q,asIntOf,Z.v,g,p,hJ o]at h1⊢;simpa using h1
  |c z=>
   simp only at h;split at h
   case h_2=>cases h
   rename_i f;rw[uX,Ox,dI]at f;have g:0≤z:=bg f.1;have p:z<(n:Int):=bg f.2;cases o:eg P F with
   |none=>simp[o]at h|some e=>
    simp only[o,bT,aO]at h;obtain⟨r,ad,rfl,rfl⟩:=h;obtain⟨vs,rfl,x⟩:=A.xD;obtain⟨v,h1,h2⟩:=Jl (P:=P) ad x w;refine⟨Pure.refl _,fun _=>Does.pure y (Pure.refl _) ?_ h2⟩;simp[Instr.index,cN q,asIntOf,Z.v,g,p,hJ o,h1]
def YP(h:zp P t a S=some (Q,R))(j:aC β a T)(k:aM G β S.H w):
 Pure S R∧(R.ok→Does P G β S w (Instr.arrayAt t T) Q R):=by
 unfold zp at h;split at h
 case h_2=>cases h
 rename_i n f m;split at h
 ·cases h
 rename_i o;split at h
 case h_2=>cases h
 rename_i b p l s;cases e:(N.le (.c n) l).cj S with
 |none=>simp[e]at h|some u=>
  simp only[e,aD,aO]at h;obtain⟨rfl,rfl⟩:=h;obtain⟨g,d⟩:=B.fT e;refine⟨g,fun ok=>?_⟩;have d:=d ok;rw[N.jO]at d;have d:n≤l.v:=bg d;obtain⟨a,x,rfl,y,z,i⟩:=j.pW;have A:n≠0:=fun f=>o f;rcases i with i|⟨q,r,rfl,bf⟩
  ·omega
  ·refine Does.pure k g ?_ (.ptr b p q r);have:¬(l.v<n):=by omega
   simp[Instr.arrayAt,cN m,this]
def YQ(h:Im P ts V=some Q)(k:aK β V vs)(e:aM G β S.H w):
 Does P G β S w (Builtin.len_ ⟨ts⟩ ty ⟨vs⟩) Q S:=by
 unfold Im at h;split at h
 case h_2=>cases h
 rename_i t aH;split at h
 case h_2=>cases h
 rename_i a q;obtain⟨v,r,rfl,f,_⟩:=k.cons_inv;split at h
 ·rename_i n m d;cases h;exact Does.pure e (Pure.refl _) (v:=.int .i64 n) (by simp[Builtin.len_,cN d,goInt]) (.num (.int .i64 (.c n)))
 ·rename_i m d;split at h
  ·cases h;rename_i b o l s;obtain⟨p,j,rfl,_⟩:=f.pW;refine Does.pure e (Pure.refl _) (v:=.int .i64 l.toZ.v) (by simp[Builtin.len_,cN d,goInt,N.toZ_v]) (.num (.int .i64 l.toZ))
  ·cases h;rename_i g o l;obtain⟨j,rfl,_⟩:=f.O2;refine Does.pure e (Pure.refl _) (v:=.int .i64 l.toZ.v) (by simp[Builtin.len_,cN d,goInt,N.toZ_v]) (.num (.int .i64 l.toZ))
  ·cases h;rename_i b l i;obtain⟨p,j,rfl,_⟩:=f.Cl;refine Does.pure e (Pure.refl _) (v:=.int .i64 l.toZ.v) (by simp[Builtin.len_,cN d,goInt,N.toZ_v]) (.num (.int .i64 l.toZ))
  ·cases h;cases f;exact Does.pure e (Pure.refl _) (v:=.int .i64 0) (by simp[Builtin.len_,cN d,goInt]) (.num (.int .i64 (.c 0)))
  ·cases h
 ·rename_i d;split at h
  ·cases h;rename_i i;cases f;exact Does.pure e (Pure.refl _) (v:=.int .i64 i.size) (by simp[Builtin.len_,cN d,goInt]) (.num (.int .i64 (.c i.size)))
  ·cases h
 ·cases h
def YR(h:Io P ts V=some Q)(g:aK β V vs)(e:aM G β S.H w):
 Does P G β S w (Builtin.cap_ ⟨ts⟩ ty ⟨vs⟩) Q S:=by
 unfold Io at h;split at h
 case h_2=>cases h
 rename_i t aH;split at h
 case h_2=>cases h
 rename_i a k;obtain⟨v,m,rfl,f,_⟩:=g.cons_inv;split at h
 ·rename_i n i d;cases h;exact Does.pure e (Pure.refl _) (v:=.int .i64 n) (by simp[Builtin.cap_,cN d,goInt]) (.num (.int .i64 (.c n)))
 ·rename_i i d;split at h
  ·cases h;rename_i b o l c;obtain⟨p,q,rfl,_,j,_⟩:=f.pW;have:=j c rfl;refine Does.pure e (Pure.refl _) (v:=.int .i64 c.toZ.v) (by simp[Builtin.cap_,cN d,goInt,N.toZ_v,this]) (.num (.int .i64 c.toZ))
  ·cases h;cases f;exact Does.pure e (Pure.refl _) (v:=.int .i64 0) (by simp[Builtin.cap_,cN d,goInt]) (.num (.int .i64 (.c 0)))
  ·cases h
 ·cases h
def PI{c:Bool}{i r:af}{f g:Value}{ts:Array TypeId}(h:min2 c Q i=some r)(m:aC β Q f)(o:aC β i g)(j:aM G β S.H w):
 Does P G β S w (if c then Builtin.max_ ts ty #[f,g]else Builtin.min_ ts ty #[f,g]) r S:=by
 unfold min2 at h;split at h
 case h_2=>cases h
 rename_i k a;split at h
 case h_2=>cases h
 rename_i q b;split at h
 ·cases h
 rename_i p;obtain rfl:=EK p;rw[m.num_inv,o.num_inv];have e:(if c=true then a.lt b else b.lt a).v=if c=true then decide (a.v<b.v)else decide (b.v<a.v):=by cases c<;>simp[Z.IA]
 have l:∀t:Bool,t=(if c=true then decide (a.v<b.v)else decide (b.v<a.v))→
  (if c then Builtin.max_ ts ty #[bk.val (.int k a),bk.val (.int k b)]else Builtin.min_ ts ty #[bk.val (.int k a),bk.val (.int k b)]).aI P w=.ok (.int k (if t then b.v else a.v)) w:=by
  intro t d;subst d;cases c<;>simp[Builtin.max_,Builtin.min_,Builtin.max2,Builtin.min2,bk.val,bk.k,bk.z]
 split at h
 ·rename_i t d;rw[d]at e;cases h;refine Does.pure j (Pure.refl _) (l t e) ?_;cases t
  ·exact .num (.int k a)
  ·exact .num (.int k b)
 ·rename_i t d;rw[d]at e;cases h;exact Does.pure j (Pure.refl _) (l t e) (.num (.int k (.s (if t then b.v else a.v))))
def YS{Q c:bk}{b:B}(h:Ip Q c=some b):Q.k=c.k∧b.v=(Q.z.v==c.z.v):=by
 have w:∀{n:Nat} (p q:BitVec n),(p==q)=(((p.toNat:Int))==(q.toNat:Int)):=by
  intro n p q;rw[ox];simp[VV];omega
 have ny:∀(Q:bk) (c:BitVec 8) (r:B),(Q.fE.map fun Q=>B.s (Q==c))=some r→Q.k=.u8∧r.v=(Q.z.v==(c.toNat:Int)):=by
  intro Q c r h;simp only[bT]at h;obtain⟨a,d,rfl⟩:=h;have:=bk.rV d;simp only[bk.val,Value.int.injEq]at this;exact⟨this.1,by rw[this.2];exact w a c⟩
 have sd:∀(Q:bk) (c:BitVec 16) (r:B),(Q.mD.map fun Q=>B.s (Q==c))=some r→Q.k=.u16∧r.v=(Q.z.v==(c.toNat:Int)):=by
  intro Q c r h;simp only[bT]at h;obtain⟨a,d,rfl⟩:=h;have:=bk.B7 d;simp only[bk.val,Value.int.injEq]at this;exact⟨this.1,by rw[this.2];exact w a c⟩
 have xJ:∀(Q:bk) (c:BitVec 32) (r:B),(Q.iu.map fun Q=>B.s (Q==c))=some r→Q.k=.u32∧r.v=(Q.z.v==(c.toNat:Int)):=by
  intro Q c r h;simp only[bT]at h;obtain⟨a,d,rfl⟩:=h;have:=bk.u5 d;simp only[bk.val,Value.int.injEq]at this;exact⟨this.1,by rw[this.2];exact w a c⟩
 have f:∀(Q:bk) (c:BitVec 64) (r:B),(Q.fF.map fun Q=>B.s (Q==c))=some r→Q.k=.u64∧r.v=(Q.z.v==(c.toNat:Int)):=by
  intro Q c r h;simp only[bT]at h;obtain⟨a,d,rfl⟩:=h;have:=bk.oP d;simp only[bk.val,Value.int.injEq]at this;exact⟨this.1,by rw[this.2];exact w a c⟩
 have g:∀(Q:BitVec 8) (c:bk) (r:B),(c.fE.map fun c=>B.s (Q==c))=some r→c.k=.u8∧r.v=((Q.toNat:Int)==c.z.v):=by
  intro Q c r h;simp only[bT]at h;obtain⟨a,d,rfl⟩:=h;have:=bk.rV d;simp only[bk.val,Value.int.injEq]at this;exact⟨this.1,by rw[this.2];exact w Q a⟩
 have i:∀(Q:BitVec 16) (c:bk) (r:B),(c.mD.map fun c=>B.s (Q==c))=some r→c.k=.u16∧r.v=((Q.toNat:Int)==c.z.v):=by
  intro Q c r h;simp only[bT]at h;obtain⟨a,d,rfl⟩:=h;have:=bk.B7 d;simp only[bk.val,Value.int.injEq]at this;exact⟨this.1,by rw[this.2];exact w Q a⟩
 have j:∀(Q:BitVec 32) (c:bk) (r:B),(c.iu.map fun c=>B.s (Q==c))=some r→c.k=.u32∧r.v=((Q.toNat:Int)==c.z.v):=by
  intro Q c r h;simp only[bT]at h;obtain⟨a,d,rfl⟩:=h;have:=bk.u5 d;simp only[bk.val,Value.int.injEq]at this;exact⟨this.1,by rw[this.2];exact w Q a⟩
 have l:∀(Q:BitVec 64) (c:bk) (r:B),(c.fF.map fun c=>B.s (Q==c))=some r→c.k=.u64∧r.v=((Q.toNat:Int)==c.z.v):=by
  intro Q c r h;simp only[bT]at h;obtain⟨a,d,rfl⟩:=h;have:=bk.oP d;simp only[bk.val,Value.int.injEq]at this;exact⟨this.1,by rw[this.2];exact w Q a⟩
 cases Q with
 |int k a=>
  cases c with
  |int m o=>
   simp only[Ip]at h;cases e:rO k m with
   |false=>simp[e]at h|true=>
    simp only[e,aD]at h;subst h;exact⟨EK e,Z.B5 a o⟩
  |bP c=>exact ny _ c b h|cX c=>exact sd _ c b h|aF c=>exact xJ _ c b h|av c=>exact f _ c b h
 |bP Q=>obtain⟨h1,h2⟩:=g Q c b h;exact⟨h1.symm,h2⟩
 |cX Q=>obtain⟨h1,h2⟩:=i Q c b h;exact⟨h1.symm,h2⟩
 |aF Q=>obtain⟨h1,h2⟩:=j Q c b h;exact⟨h1.symm,h2⟩
 |av Q=>obtain⟨h1,h2⟩:=l Q c b h;exact⟨h1.symm,h2⟩
end
end
section
variable [aR][aG]
variable{t Q:TypeId}{n:Nat}{i:TypeInfo}{k:IntKind}{R:BinOp}
section
variable{P:Program}{G:Nat→Option (List af)}{β:aE}{w:World}
def YT(w:World)(d:Nat)(t:TypeId)(k c:IntKind)(a b:Int)(h:P.underlying t=some (.int c)):(Op.equalIn (d+1) t (.int k a) (.int k b)).aI P w=.ok (a==b) w:=by
 simp[Op.equalIn,zC h]
def YU(w:World)(d:Nat)(t:TypeId)(a b:Bool)(h:P.underlying t=some .bool):(Op.equalIn (d+1) t (.bool a) (.bool b)).aI P w=.ok (a==b) w:=by
 simp[Op.equalIn,zC h]
def YV(w:World)(R:BinOp)(t:TypeId)(a b:Operand)(c d:Array Value)(e:P.eqGuardType P.depth t=false):(eqGuard R t a b (.agg c) (.agg d)).aI P w=.ok () w:=by
 cases R<;>simp[eqGuard,e]
def YW(w:World)(h:P.info? t=some i):(sizeOf t).aI P w=.ok (P.cellsOf t) w:=by
 simp[sizeOf,typeInfo,h,Program.cellsOf]
def YX(w:World)(d:Nat)(c e:Array Value)(l:P.underlying t=some (.array n Q))(hi:P.info? Q=some i):
 (Op.equalIn (d+1) t (.agg c) (.agg e)).aI P w=(Op.eqItems d Q (P.cellsOf Q) c e (List.range n)).aI P w:=by
 simp only[Op.equalIn,Sem.tr,zC l,Result.andThen_ok,YW w hi];simp only[Std.Legacy.Range.forIn_eq_forIn_range',Std.Legacy.Range.size,gE,Nat.add_one_sub_one,Nat.div_one,Wh];generalize List.range' 0 n=is
 induction is generalizing w with
 |nil=>simp[Op.eqItems]|cons j is m=>
  simp only[List.forIn_cons,Op.eqItems,Sem.tr];generalize(part Q c (j*P.cellsOf Q)).aI P w=o;cases o with
  |ok a w1=>
   simp only[Result.andThen_ok];generalize(part Q e (j*P.cellsOf Q)).aI P w1=p;cases p with
   |ok b f=>
    simp only[Result.andThen_ok];generalize(Op.equalIn d Q a b).aI P f=q;cases q with
    |ok r g=>
     cases r
     ·simp only[Result.andThen_ok,Bool.not_false,g6,Sem.fS]
     ·simp only[Result.andThen_ok,Wi,nc,ee,Sem.fS];exact m g
    |halt h g=>simp[Result.andThen]
   |halt h f=>simp[Result.andThen]
  |halt h w1=>simp[Result.andThen]
def PK{Q:TypeId}{k:IntKind}(p:P.underlying Q=some (.int k))(d:Nat):∀(e c:List af) (vs us:List Value) (j m:Nat) (b:B),uO e c=some b→e.length=m→aK β e (vs.drop j)→aK β c (us.drop j)→
 (Op.eqItems (d+1) Q 1 ⟨vs⟩ ⟨us⟩ (List.range' j m)).aI P w=.ok b.v w
 |[],c,vs,us,j,m,b,h,l,h1,h2=>by
  simp only[kI]at l;subst l;cases c<;>simp[uO]at h;subst h;simp[Op.eqItems,B.v]
 |f::e,c,vs,us,j,m,b,h,l,h1,h2=>by
  cases c with
  |nil=>simp[uO]at h|cons o c=>
   simp only[uO]at h;cases g:Iq f o with
   |none=>simp[g]at h|some a=>
    cases q:uO e c with
    |none=>simp[g,q]at h|some r=>
     simp only[g,q,aD]at h;subst h;obtain⟨v,A,x,C,D⟩:=h1.cons_inv;obtain⟨u,E,y,F,bf⟩:=h2.cons_inv;have H:vs[j]? =some v:=by
      have:(vs.drop j)[0]? =some v:=by rw[x];rfl
      simpa using this
     have I:us[j]? =some u:=by
      have:(us.drop j)[0]? =some u:=by rw[y];rfl
      simpa using this
     have J:A=vs.drop (j+1):=by
      have:=iX (List.drop 1) x;rw[HZ]at this;simpa[Bi]using this.symm
     have K:E=us.drop (j+1):=by
      have:=iX (List.drop 1) y;rw[HZ]at this;simpa[Bi]using this.symm
     subst J K;obtain⟨s,rfl⟩:∃s,m=s+1:=⟨m-1,by simp at l;omega⟩;have L:=PK p d e c vs us (j+1) s r q (by simpa using l) D bf;cases f<;>simp only[Iq,reduceCtorEq]at g;cases o<;>simp only[reduceCtorEq]at g;rename_i f o;obtain⟨M,N⟩:=YS g;have O:=C.num_inv;have S:=F.num_inv;subst O S;have T:(isAgg Q).aI P w=.ok false w:=by simp[isAgg,cN p]
     rw[List.range'_succ];simp only[Op.eqItems,Sem.tr,part,T,Result.andThen_ok,nc,ee,y4,rK,H,I,Sem.fS];have U:(Op.equalIn (d+1) Q f.val o.val).aI P w=.ok a.v w:=by
      rw[N];simp only[bk.val];rw[←M];exact YT w d Q f.k k f.z.v o.z.v p
     rw[U];simp only[Result.andThen_ok];rw[B.uZ];cases V:a.v
     ·simp
     ·simp only[Wi,nc,ee,Bool.true_and];exact L
def YY(d:P.underlying t=some (.array n Q))(e:P.underlying Q=some (.int k))(f:eg P Q=some 1){a c:List af}{vs us:List Value}{b:B}
 (h:uO a c=some b) (g:aK β a vs) (j:aK β c us) (l:a.length=n):(Op.equalIn 10000 t (.agg ⟨vs⟩) (.agg ⟨us⟩)).aI P w=.ok b.v w:=by
 obtain⟨i,hi,m⟩:=Cr f;rw[YX w 9999 ⟨vs⟩ ⟨us⟩ d hi];have o:P.cellsOf Q=1:=by simp[Program.cellsOf,hi,m]
 rw[o,Wh];exact PK (P:=P) (w:=w) e 9998 a c vs us 0 n b h l (by simpa using g) (by simpa using j)
def YZ(f:P.underlying t=some (.array n Q))(g:P.underlying Q=some (.int k))(a b:Operand)(c e:Array Value):
 (eqGuard R t a b (.agg c) (.agg e)).aI P w=.ok () w:=by
 refine YV w R t a b c e ?_;have:∃d,P.depth=d+2:=⟨2*(P.types.size+Made.depth),rfl⟩;obtain⟨d,h⟩:=this;rw[h];simp[Program.eqGuardType,f,g]
def Jm{b:Array (String×TypeId)}(c:P.underlying t=some (.interface b))(d:Nat)(u:TypeId)(a:Value):
 (Op.equalIn (d+1) t (.iface u a) .nilIface).aI P w=.ok false w∧(Op.equalIn (d+1) t .nilIface (.iface u a)).aI P w=.ok false w∧(Op.equalIn (d+1) t .nilIface .nilIface).aI P w=.ok true w:=by
 simp[Op.equalIn,cN c]
def PL{R:BinOp}(aQ:R=.eql∨R=.neq){t:TypeId}{m o:Operand}{q s:af}{d e:Value}{b:B}(h:BN P t (isConst m||isConst o) q s=some b)(j:aC β q d)(l:aC β s e):
 ((eqGuard R t m o d e).aI P w=.ok () w)∧(binOp R t d e).aI P w=.ok (.bool (if R=.eql then b.v else !b.v)) w:=by
 have fin:∀(u v:Value),(∀t a b,binOp .eql t u v=(do pure (.bool (←Op.equal t u v)))∧binOp .neq t u v=(do pure (.bool (!(←Op.equal t u v))))∨(a:Nat)=b+1)→True:=fun _ _ _=>trivial;have conv:∀{r:Bool},(Op.equalIn 10000 t d e).aI P w=.ok r w→(binOp .eql t d e=do pure (.bool (←Op.equal t d e)))→(binOp .neq t d e=do pure (.bool (!(←Op.equal t d e))))→(binOp R t d e).aI P w=.ok (.bool (if R=.eql then r else !r)) w:=by
  intro r x h1 h2;rcases aQ with rfl|rfl
  ·rw[h1];simp[Op.equal,Op.maxDepth,x]
  ·rw[h2];simp[Op.equal,Op.maxDepth,x]
 unfold BN at h;split at h
 ·rename_i f;rw[dI]at f;have ex:q=.atom .fD:=by
   have:=f.1;unfold Eu at this;split at this;rfl;cases this
  have A:s=.atom .fD:=by
   have:=f.2;unfold Eu at this;split at this;rfl;cases this
  subst ex A;cases j;cases l;split at h
  case h_2=>cases h
  rename_i g;split at h
  case h_2=>cases h
  rename_i y c;cases h;refine⟨?_,?_⟩
  ·rw[pN]at g;rcases g with g|g
   ·cases m<;>simp[isConst]at g;rw[eqGuard_nil_constL];rfl
   ·cases o<;>simp[isConst]at g;rw[eqGuard_nil_constR];rfl
  ·exact conv (Jm (P:=P) (w:=w) c 9999 0 .nilFunc).2.2 rfl rfl
 ·rename_i C;clear C;unfold Oe at h;split at h
  ·rename_i D;split at h
   case h_2=>cases h
   rename_i I;split at h
   case h_2=>cases h
   rename_i n Q c;split at h
   case h_2=>cases h
   rename_i k z;split at h
   case h_2=>cases h
   rename_i E;split at h
   case h_2=>cases h
   rename_i f;obtain⟨vs,rfl,F⟩:=j.xD;obtain⟨us,rfl,H⟩:=l.xD;have f:D.length=n:=by simpa using f
   exact⟨YZ c z m o _ _,conv (YY c z E h F H f) rfl rfl⟩
  ·rename_i a;split at h
   case h_2=>cases h
   rename_i p;split at h
   case h_2=>cases h
   rename_i c;cases h;rw[j.tC,l.tC]at conv⊢
   have Q:(Od a p).v=(a.v==p.v):=by cases a<;>cases p<;>rfl
   rw[eqGuard_at_bool];refine⟨rfl,?_⟩;rw[Q];exact conv (YU w 9999 t a.v p.v c) rfl rfl
  ·split at h
   case h_2=>cases h
   split at h
   case h_2=>cases h
   rename_i y c;cases h;cases j;cases l;rw[eqGuard_nil_iface];exact⟨rfl,conv (Jm (P:=P) (w:=w) c 9999 _ _).2.1 rfl rfl⟩
  ·split at h
   case h_2=>cases h
   split at h
   case h_2=>cases h
   rename_i y c;cases h;cases j;cases l;rw[eqGuard_at_iface];exact⟨rfl,conv (Jm (P:=P) (w:=w) c 9999 _ _).1 rfl rfl⟩
  ·cases h
def Y0{c d:Operand}{e f r:af}{l m:Value}{S g:ai}(h:zu P R t c d e f S=some (r,g))(o:aC β e l)(p:aC β f m)(q:aM G β S.H w):
 Pure S g∧(g.ok→Does P G β S w (do eqGuard R t c d l m;binOp R t l m) r g):=by
 unfold zu at h;cases s:binop R e f S with
 |some y=>
  simp only[s,aD]at h;subst h;obtain⟨a,b,rfl,rfl,u,x⟩:=Xc (P:=P) w s t;refine⟨u,fun ok=>?_⟩;obtain⟨v,h1,h2⟩:=x ok;rw[o.num_inv,p.num_inv];refine Does.pure q u (v:=v) ?_ (aC.oU h2);rw[show eqGuard R t c d a.val b.val=pure ()from eqGuard_at_int _ _ _ _ _ _ _];simpa using h1
 |none=>
  simp only[s]at h;cases j:BN P t (isConst c||isConst d) e f with
  |none=>simp[j]at h|some b=>
   simp only[j]at h;cases R<;>simp only[aD,aO,reduceCtorEq]at h<;>obtain⟨rfl,rfl⟩:=h
   ·obtain⟨h1,h2⟩:=PL (P:=P) (w:=w) (.inl rfl) j o p;refine⟨Pure.refl _,fun _=>Does.pure q (Pure.refl _) (v:=.bool b.v) ?_ (.bool b)⟩;simp only[Sem.tr,h1,Result.andThen_ok,h2];rfl
   ·obtain⟨h1,h2⟩:=PL (P:=P) (w:=w) (.inr rfl) j o p;refine⟨Pure.refl _,fun _=>Does.pure q (Pure.refl _) (v:=.bool b.not.v) ?_ (.bool b.not)⟩;simp only[Sem.tr,h1,Result.andThen_ok,h2,B.Iz];rfl
end
end
section
variable [aR][aG]
variable{ty:TypeId}{Q:Nat}{t u R:TypeId}{i:TypeInfo}{d:TypeDesc}{vs:List Value}{S:ai}{T V n:Nat}{U z W:Value}{cs:List af}
section
variable{P:Program}{G:Nat→Option (List af)}{β:aE}{w:World}
def Y1{a:Addr}{w':World}(b:P.underlying t=some (.slice R))(c:P.underlying u=some d)(j:xI d)
 (hi:P.info? R=some i) (k:i.size=Q) (e:∀w,(Builtin.lenOf U).aI P w=.ok n w) (f:(Builtin.firstCells Q n U).aI P w=.ok ⟨vs⟩ w) (g:T+n≤V)
 (h:(storeCells (a.add (T*Q)) vs).aI P w=.ok () w'):
 (Builtin.append_ #[t,u] ty #[.slice (some a) T V,U]).aI P w=.ok (.slice (some a) (T+n) V) w':=by
 subst k;rcases j with⟨l,rfl⟩|rfl
 ·simp[Builtin.append_,cN b,cN c,sizeOf,typeInfo,hi,e,f,g,h]
 ·simp[Builtin.append_,cN b,cN c,sizeOf,typeInfo,hi,e,f,g,h]
def Y2{base:Option Addr}{a:List Value}(b:P.underlying t=some (.slice R))(c:P.underlying u=some d)(o:xI d)
 (hi:P.info? R=some i) (e:i.zero=some z) (p:i.size=Q) (f:∀w,(Builtin.lenOf U).aI P w=.ok n w) (g:(Builtin.firstCells Q n U).aI P w.drew=.ok ⟨vs⟩ w.drew)
 (h:(Builtin.firstCells Q T (.slice base T V)).aI P w.drew=.ok ⟨a⟩ w.drew) (q:V<T+n) (r:(T+n)*i.bytes≤1099511627776) (j:i.bytes≠0):
 (Builtin.append_ #[t,u] ty #[.slice base T V,U]).aI P w=
  .ok (.slice (some (at' w.heap.size 0)) (T+n) (grownCap w (T+n) V R))
   (w.drew.alloc (.cells ⟨a++vs++(Builtin.zeroCells z.cells (grownCap w (T+n) V R-(T+n))).toList⟩ R)):=by
 subst p;have k:¬(T+n≤V):=by omega
 have s:T+n≤(T+n)*i.bytes:=Ee _ (by omega);have l:¬(9223372036854775807<((T:Int)+(n:Int))):=by omega
 have m:¬(281474976710656<Builtin.nextslicecap (T+n) V*i.bytes):=by have:=growslice_fits q (bytes:=i.bytes) (by omega);omega
 rcases o with⟨v,rfl⟩|rfl
 ·simp[Builtin.append_,cN b,cN c,sizeOf,typeInfo,zeroValue,hi,e,f,k,l,m,j,Question.forced,g,h,newRow,grownCap,at'];congr 2;apply j3;simp
 ·simp[Builtin.append_,cN b,cN c,sizeOf,typeInfo,zeroValue,hi,e,f,k,l,m,j,Question.forced,g,h,newRow,grownCap,at'];congr 2;apply j3;simp
def Y3{U:af}{aH:Value}{ae:ai}{r:af}{us:List Value}
 (aJ:P.underlying t=some (.slice R)) (aL:P.underlying u=some d) (aN:xI d) (hi:P.info? R=some i) (a6:i.zero=some z) (aP:i.size=Q) (a7:z.cells.size=Q) (a8:i.bytes≠0)
 (aQ:∀w,(Builtin.lenOf W).aI P w=.ok 1 w) (aS:∀w':World,(∀a,w'.cell? a=w.cell? a)→(Builtin.firstCells Q 1 W).aI P w'=.ok ⟨us⟩ w') (aT:us.length=Q) (bK:cs.length=Q) (ag:aK β cs us)
 (a9:∀v∈us,v.oneCell'=true) (aU:aC β U aH) (X:aM G β S.H w) (h:BI U Q i.bytes cs S=some (r,ae)):
 (ae.ok→S.ok)∧(ae.ok→Does P G β S w (Builtin.append_ #[t,u] ty #[aH,W]) r ae):=by
 have ao:∀(g:Data) (q:List Value) (a:Option Addr) (l e:Nat) (D:List ah),g.full→q.length=l*Q→aK β g.list (q++us)→g.len=(l+1)*Q→e<l+1→(l+1)*i.bytes≤1099511627776→
  (Builtin.firstCells Q l (.slice a l e)).aI P w.drew=.ok ⟨q⟩ w.drew→
  aM G β D w→bJ β S.H w β D w→D.length=S.H.length→∀k:N,k.v=l+1→
  ∃v w',(Builtin.append_ #[t,u] ty #[.slice a l e,W]).aI P w=.ok v w'∧ff w w'∧(lm w w'→∃p,aC p (.ref (.sm S.H.length k Q)) v∧aM G p (D++[⟨g,.own⟩]) w'∧bJ β S.H w p (D++[⟨g,.own⟩]) w'):=by
  intro g q a l e D ba bb ap Y bc aj bd bh bi aW k aX;have bj:=Y2 (P:=P) (w:=w) (base:=a) (ty:=ty) aJ aL aN hi a6 aP aQ (aS w.drew (fun a=>rfl)) bd bc aj a8;have bk:(Builtin.zeroCells z.cells (grownCap w (l+1) e R-(l+1))).toList.length=(grownCap w (l+1) e R-(l+1))*Q:=by simp[Builtin.zeroCells,a7]
  have bL:(l+1)*Q=l*Q+Q:=by rw[jL]
  have ak:=bh.drew.new g (q++us++(Builtin.zeroCells z.cells (grownCap w (l+1) e R-(l+1))).toList) R (by rw[fB,fB];omega) (by
   rw[HO (by rw[fB];omega),qy (by rw[fB];omega)];exact ap)
  refine⟨_,_,bj,I9 _ _,fun E=>?_⟩;have ak:=ak (fI.of (I8 E) ba);refine⟨_,?_,ak.1,(bi.trans (bJ.drew β D w)).trans ak.2⟩;have bl:=Jk w (l+1) e R;have bM:grownCap w (l+1) e R*Q=(l+1)*Q+(grownCap w (l+1) e R-(l+1))*Q:=by
   rw[←Bj];congr 1;omega
  have y:=aC.sm (β:=β.put D.length ⟨w.heap.size,0,(q++us++(Builtin.zeroCells z.cells (grownCap w (l+1) e R-(l+1))).toList).length⟩) D.length k Q (some (at' w.heap.size 0)) (grownCap w (l+1) e R)
   (by rw[aX];exact bl) (.inr ⟨_,aE.gq ..,rfl,by
    show grownCap w (l+1) e R*Q≤(q++us++_).length;rw[fB,fB,bk,bb,aT];omega⟩)
  rw[aX,aW]at y;rw[←aW]at y⊢;exact y
 unfold BI at h;split at h
 ·
   cases aU;split at h
   case h_2=>cases h
   rename_i aq ar;obtain⟨C,y⟩:=B.fT ar;simp only[aD,aO]at h;obtain⟨rfl,rfl⟩:=h;refine⟨fun o=>C.ok o,fun ok=>?_⟩;have bm:(1:Nat)*i.bytes≤1099511627776:=by
    have:=y ok;simpa[N.fits,N.le,N.ir,B.v]using this
   obtain⟨v,w',Z,aa,A⟩:=ao (.gen cs) [] none 0 0 S.H (lU _) (by simp) (show aK β (Data.gen cs).list ([]++us)from ag) (by show cs.length=_;omega) (by omega) (by simpa using bm) (xF P _ Q 0 _ _) X (bJ.refl ..) rfl (.c 1) rfl;refine⟨v,w',Z,aa,fun E=>?_⟩;obtain⟨p,A,ab,ad⟩:=A E;refine⟨p,by rw[C.H];exact A,?_,?_⟩
   ·show aM G p (aq.H++_) w';rw[C.H];exact ab
   ·show bJ β S.H w p (aq.H++_) w';rw[C.H];exact ad
 ·rename_i b l f;split at h
  ·cases h
  rename_i au;have au:f=Q:=by simpa using au
  subst au;simp only[cg]at h;split at h
  case h_2=>cases h
  rename_i g m av;cases m<;>simp only[reduceCtorEq]at h;split at h
  case h_2=>cases h
  rename_i aq bo;obtain⟨bp,bq⟩:=B.fT bo;split at h
  case h_2=>cases h
  rename_i F br;obtain⟨aY,bs⟩:=B.fT br;cases I:g.app (.gen cs)with
  |none=>simp[I]at h|some L=>
   simp only[I,aD,aO]at h;obtain⟨rfl,rfl⟩:=h;have C:=bp.trans aY;refine⟨fun o=>C.ok o,fun ok=>?_⟩;have h3:=bs ok;have h1:=bq (aY.ok ok);obtain⟨a,e,rfl,bN,K⟩:=aU.Cl;have aw:l.v*f=g.len:=by
    cases l<;>simpa[N.eq,N.ir,B.v,N.v]using h1
   have aj:(l.v+1)*i.bytes≤1099511627776:=by
    cases l with
    |c U=>exact Wf h3|s U=>exact bg h3
   obtain⟨bt,ax⟩:=Data.Fy I;have M:(F.kill b).H=S.H.set b ⟨.gen [],.bn⟩:=by simp[ai.kill,iN,C.H]
   have aZ:aM G β (S.H.set b ⟨.gen [],.bn⟩) w:=X.kill b _;have al:(l.add (.c 1)).v=l.v+1:=N.gM ..;have Y:L.len=(l.v+1)*f:=by
    have:(Data.gen cs).len=cs.length:=rfl;rw[bt,this,jL];omega
   rcases X.blk b _ av (eo rfl)with⟨x,am,bu⟩|⟨bv,E⟩
   ·obtain⟨bw,a0,vs,bz,bx,bA,bB,bC,bO,bD⟩:=(show r8 β g x w from bu);by_cases az:l.v+1≤e
    ·rcases K with K|⟨a1,J,rfl,bf⟩
     ·omega
     ·rw[am]at J;injection J with R;subst R;have bE:(l.v+1)*f≤e*f:=fP _ az;rw[jL]at bE;have a2:=Fl P x.c (l.v*f) bz bx us 0 ⟨vs⟩ w bA bB (by simp;omega) a9 (fun k _ _=>(a0.tD (Data.pZ I).1).rT k true);simp only[gb]at a2;have ap:aK β L.list ((ay.over vs (l.v*f) us).take L.len):=by
       have:=ax bD ag;have aA:vs.take g.len++us=(ay.over vs (l.v*f) us).take L.len:=by
        rw[Y,aw,jL,aw];have bP:(vs.take g.len++us).length=g.len+f:=by rw[fB,pM,aT];omega
        show _=(vs.take g.len++us++vs.drop (g.len+us.length)).take (g.len+f);rw[HO (by omega)];exact(qy (by omega)).symm
       rw[←aA];exact this
      have a3:=X.move av am (ay.over vs (l.v*f) us) (by rw[Cs _ _ _ (by omega),bC]) (by rw[Y,jL];omega) ap (fun c ar=>fI.of (ar.tD (Data.pZ I).1) (Data.pZ I).2) (.gen []);refine⟨.slice (some (at' x.c x.base)) (l.v+1) e,w.setRow x.c ⟨ay.over vs (l.v*f) us⟩,?_,I7 w a0.mine _,fun _=>⟨β.put S.H.length x,?_,?_,?_⟩⟩
      ·refine Y1 (ty:=ty) aJ aL aN hi aP aQ (aS w (fun _=>rfl)) az ?_;rw[oV,show at' x.c (x.base+l.v*f)=⟨x.c,l.v*f,none⟩ by simp[at',bw]];exact a2
      ·have bF:F.H.length=S.H.length:=by rw[C.H]
       have:=aC.sm (β:=β.put S.H.length x) F.H.length (l.add (.c 1)) f (some (at' x.c x.base)) e (by rw[al];exact az)
        (.inr ⟨x,by rw[bF];exact aE.gq ..,rfl,bf⟩)
       rw[al]at this;exact this
      ·show aM G _ ((F.kill b).H++_) _;rw[M];exact a3.1
      ·show bJ β S.H w _ ((F.kill b).H++_) _;rw[M];exact a3.2
    ·have hold:∃q:List Value,q.length=l.v*f∧aK β g.list q∧(Builtin.firstCells f l.v (.slice a l.v e)).aI P w.drew=.ok ⟨q⟩ w.drew:=by
      rcases K with K|⟨a1,J,rfl,bf⟩
      ·have O:l.v=0:=by omega
       have bG:g.len=0:=by rw[←aw,O,wZ]
       have aB:g.list=[]:=Bh (by rw[Data.jx];exact bG);refine⟨[],by rw[O];simp,by rw[aB];exact aK.nil β,?_⟩;rw[O];cases a with
       |none=>exact xF P _ f 0 _ _|some a=>exact vp P _ f 0 a _ _ [] (by simp) (fun j v y=>by simp at y) (fun j an=>absurd an (oz _))
      ·rw[am]at J;injection J with R;subst R;obtain⟨a4,bQ,a5,bH,gN⟩:=Fx X av (by intro h;cases h) am (o:=0) (n:=g.len) (by omega) (Data.pZ I).1;rw[HX,qy (by rw[Data.jx];exact aV _)]at a5;refine⟨a4,by omega,a5,vp P _ f l.v _ _ _ a4 (by omega) (fun j v y=>?_) (fun j an=>by have:=gN j (by omega);rw[gb]at this;exact this)⟩;have:=bH j v y;rw[gb]at this;exact this
     obtain⟨q,bI,aA,aF⟩:=hold;obtain⟨v,w',Z,aa,A⟩:=ao L q a l.v e (S.H.set b ⟨.gen [],.bn⟩) (Data.pZ I).2 bI (ax aA ag) Y (by omega) aj aF aZ (bJ.kill b _) (by simp) (l.add (.c 1)) al;refine⟨v,w',Z,aa,fun E=>?_⟩;obtain⟨p,A,ab,ad⟩:=A E;refine⟨p,by rw[C.H];exact A,?_,?_⟩
     ·show aM G p ((F.kill b).H++_) w';rw[M];exact ab
     ·show bJ β S.H w p ((F.kill b).H++_) w';rw[M];exact ad
   ·have bR:e=0:=by
     rcases K with K|⟨a1,J,_⟩
     ·exact K
     ·rw[E]at J;cases J
    have O:l.v=0:=by omega
    have aB:g.list=[]:=Bh (by rw[Data.jx];exact bv);have aF:(Builtin.firstCells f l.v (.slice a l.v e)).aI P w.drew=.ok ⟨[]⟩ w.drew:=by
     rw[O];cases a with
     |none=>exact xF P _ f 0 _ _|some a=>exact vp P _ f 0 a _ _ [] (by simp) (fun j v y=>by simp at y) (fun j an=>absurd an (oz _))
    obtain⟨v,w',Z,aa,A⟩:=ao L [] a l.v e (S.H.set b ⟨.gen [],.bn⟩) (Data.pZ I).2 (by rw[O];simp) (ax (by rw[aB];exact aK.nil β) ag) Y (by omega) aj aF aZ (bJ.kill b _) (by simp) (l.add (.c 1)) al;refine⟨v,w',Z,aa,fun E=>?_⟩;obtain⟨p,A,ab,ad⟩:=A E;refine⟨p,by rw[C.H];exact A,?_,?_⟩
    ·show aM G p ((F.kill b).H++_) w';rw[M];exact ab
    ·show bJ β S.H w p ((F.kill b).H++_) w';rw[M];exact ad
 ·cases h
def Y4{k:af}(h:Ig k Q S=some cs)(p:aC β k W)(y:aM G β S.H w):
 ∃us:List Value,us.length=Q∧cs.length=Q∧aK β cs us∧(∀w,(Builtin.lenOf W).aI P w=.ok 1 w)∧(∀w':World,(∀a,w'.cell? a=w.cell? a)→(Builtin.firstCells Q 1 W).aI P w'=.ok ⟨us⟩ w')∧∀v∈us,v.oneCell'=true:=by
 unfold Ig at h;split at h
 case h_2=>cases h
 rename_i b o l c;split at h
 case h_2=>cases h
 split at h
 case h_2=>cases h
 rename_i e A;split at h
 case h_2=>cases h
 rename_i g;injection h with h;subst h;simp only[dI]at g;have B:e.length=Q:=by simpa using g.1
 obtain⟨m,C,D⟩:=ai.r9 A;obtain⟨a,E,rfl,q,L,r⟩:=p.pW;have q:1≤E:=q;rcases r with r|⟨M,F,rfl,bf⟩
 ·omega
 ·obtain⟨us,s,f,I,gN⟩:=Fx y C D F (o:=0) (n:=Q) (by show 0+Q≤e.length;omega) (lU _);have f:aK β e us:=by
   have:((Data.gen e).list.drop 0).take Q=e:=by
    show(e.drop 0).take Q=e;rw[HX,qy (by omega)]
   rw[this]at f;exact f
  refine⟨us,s,B,f,fun w=>vu (l:=.c 1) (x:=.ref (.sl b (.c 0) (.c 1) c)) rfl p w,fun w' J=>?_,Jj (d:=.gen e) g.2 f⟩;refine vp P _ Q 1 _ _ _ us (by omega) (fun j v K=>?_) (by rw[s];exact gN);rw[J];exact I j v K
def Y5{j:List TypeId}{k:List af}{U:af}{b:ai}(h:BJ P j k S=some (U,b))(l:aK β k vs)(e:aM G β S.H w):
 (b.ok→S.ok)∧(b.ok→Does P G β S w (Builtin.append_ ⟨j⟩ ty ⟨vs⟩) U b):=by
 unfold BJ at h;split at h
 ·rename_i r f;injection h with h;subst h;exact YI f l e
 ·unfold Ih at h;split at h
  case h_2=>cases h
  rename_i t u;split at h
  case h_2=>cases h
  rename_i R Q p;obtain⟨q,s⟩:=Fz p;split at h
  ·cases h
  split at h
  case h_1=>cases h
  case h_2=>cases h
  rename_i i M hi v;obtain⟨x,z,a,y,_,_,m⟩:=tG v β;rw[hi]at a;injection a with a;subst a;obtain⟨x,a,o⟩:=Cr s;rw[hi]at a;injection a with a;subst a;rw[o]at m;split at h
  ·cases h
  rename_i c;have c:i.bytes≠0:=by intro R;rw[R]at c;cases c
  split at h
  ·cases h
  rename_i g;obtain⟨d,g,A⟩:=PC g;split at h
  case h_2=>cases h
  rename_i U N;obtain⟨O,X,rfl,B,f⟩:=l.cons_inv;obtain⟨W,Y,rfl,C,D⟩:=f.cons_inv;have:=D.r7;subst this;split at h
  case h_2=>cases h
  rename_i cs E;obtain⟨us,F,I,J,dr,K,L⟩:=Y4 (P:=P) E C e;exact Y3 q g A hi y o m c dr K F I J L B e h
end
end
section
variable [aR][aG]
variable{S:ai}{P:Program}{R:ai}{Q:af}
section
variable{G:Nat→Option (List af)}{β:aE}{w:World}
def Cw{ev:Operand→af}{a:Operand→Value}(h:∀Q,aC β (ev Q) (a Q)):∀l:List Operand,aK β (lO ev l) (l.map a)|[]=>aK.nil β|Q::l=>aK.cons (h Q) (Cw h l)
def FC{ev:Operand→af}{c:Operand→Value}(h:∀Q,aC β (ev Q) (c Q)):∀l:List (Nat×Operand),FB β (pP ev l) (l.map fun p=>(p.1,c p.2))
 |[]=>⟨rfl,fun i p v a=>by simp[pP]at a⟩|(k,Q)::l=>by
  obtain⟨h1,h2⟩:=FC h l;refine⟨by simp[pP,h1],fun i p v a b=>?_⟩;cases i with
  |zero=>simp[pP]at a b;subst a b;exact⟨rfl,h Q⟩|succ i=>exact h2 i p v (by simpa[pP]using a) (by simpa using b)
def Jn{ev:Operand→af}{b:Operand→Value}(h:∀Q,aC β (ev Q) (b Q))(a:Option Operand):mU β (oK ev a) (a.map b):=by
 cases a with
 |none=>trivial|some Q=>exact h Q
def qM(P:Program)(G:Nat→Option (List af))(β:aE)(S:ai)(w:World)(b:Sem Next)(Q:af)(R:ai):Prop:=
 ∃r v w',b.aI P w=.ok r w'∧(r=.value v∨r=.skip∧v=undef)∧ff w w'∧(lm w w'→∃a,aC a Q v∧aM G a R.H w'∧bJ β S.H w a R.H w')
def hO{a:Sem Value}(h:Does P G β S w a Q R):qM P G β S w (do pure (Next.value (←a))) Q R:=by
 obtain⟨v,w',h1,h2,h3⟩:=h;exact⟨.value v,v,w',by simp[h1],.inl rfl,h2,h3⟩
def Y6{a:Sem Unit}(h:Ja P G β S w a R):qM P G β S w (do a;pure Next.skip) .aa R:=by
 obtain⟨w',h1,h2,h3⟩:=h;exact⟨.skip,undef,w',by simp[h1],.inr ⟨rfl,rfl⟩,h2,fun b=>let⟨c,d,e⟩:=h3 b;⟨c,.aa _,d,e⟩⟩
def qM.val{v:Value}(a:aM G β S.H w)(h:aC β Q v):qM P G β S w (pure (Next.value v)) Q S:=
 ⟨.value v,v,w,rfl,.inl rfl,ff.refl w,fun _=>⟨β,h,a,bJ.refl ..⟩⟩
def tH{a:Option af}(h:val S a=some (Q,R)):a=some Q∧R=S:=by
 cases a with
 |none=>simp[val]at h|some b=>simp[val]at h;exact⟨by rw[h.1],h.2.symm⟩
class lV(C:eJ):Prop where
 ok:∀f args v,C.ext f args=some v→∀(β:aE) vs w,aK β args vs→∃u,aC β v u∧(callFunc f ⟨vs⟩).aI C.P w=.ok (.value u) w
 PM:∀t m f,C.gx t m=some f→∀(p:Addr) w,(nilAhead (C.P.types.size+Made.depth) t (.pointer (some p)) m).aI C.P w=.ok (some false) w
def Y7{C:eJ}[lV C](Y:C.dA=G){o:Oper}{f:(Operand→af)→ai→Option (af×ai)}{ev:Operand→af}{ρ:Operand→Value}{Q:af}{S R:ai}(L:nt C o.op=.run f)(h:f ev S=some (Q,R))
 (e:∀Q,aC β (ev Q) (ρ Q)) (g:aM G β S.H w):(R.ok→S.ok)∧(R.ok→qM C.P G β S w (execOp ρ o) Q R):=by
 obtain⟨Z,M,ag,aV,after,guard⟩:=o;simp only at L;cases M<;>simp only[nt,It.run.injEq,reduceCtorEq]at L<;>subst L<;>(try(simp at h;done))<;>(try dsimp only at h)
 case move a=>
  simp only[aD,aO]at h;obtain⟨rfl,rfl⟩:=h;exact⟨id,fun _=>qM.val g (e a)⟩
 case assign a=>
  simp only[aD,aO]at h;obtain⟨rfl,rfl⟩:=h;exact⟨id,fun _=>qM.val g (e a)⟩
 case pick c a b=>
  unfold BP at h;split at h
  case h_2=>cases h
  rename_i t N;have aa:=e c;rw[N]at aa;have ab:=aa.tC;split at h
  ·rename_i ad I;simp only[aD,aO]at h;obtain⟨rfl,rfl⟩:=h;obtain⟨m,q⟩:=B.oO I;refine⟨m.ok,fun ok=>?_⟩;refine⟨.value (ρ a),ρ a,w,?_,.inl rfl,ff.refl w,fun _=>⟨β,e a,by rw[m.H];exact g,by rw[m.H];exact bJ.refl ..⟩⟩;simp[execOp,ab,asBool,q ok]
  ·rename_i ad I;simp only[aD,aO]at h;obtain⟨rfl,rfl⟩:=h;obtain⟨m,q⟩:=B.oO I;refine⟨m.ok,fun ok=>?_⟩;refine⟨.value (ρ b),ρ b,w,?_,.inl rfl,ff.refl w,fun _=>⟨β,e b,by rw[m.H];exact g,by rw[m.H];exact bJ.refl ..⟩⟩;simp[execOp,ab,asBool,q ok]
  ·cases h
 case alloc D=>
  obtain⟨h1,h2⟩:=Yw Y h g;exact⟨h1,fun _=>hO h2⟩
 case box t v=>
  obtain⟨h1,h2⟩:=Yx (P:=C.P) (t:=t) h (e v) g;exact⟨h1,fun _=>hO h2⟩
 case build t E=>
  obtain⟨r,y⟩:=tH h;clear h;have h:=r;clear r;subst y;refine⟨id,fun _=>?_⟩;have:=hO (YL h (FC e E.toList) g);have D:E.map (fun(Q:Nat×Operand)=>(Q.1,ρ Q.2))=⟨E.toList.map fun p=>(p.1,ρ p.2)⟩:=by apply j3;simp
  simp only[execOp];rw[D];exact this
 case buildSlice t n E=>
  obtain⟨h1,h2⟩:=YM h (FC e E.toList) g;refine⟨h1,fun _=>?_⟩;have D:E.map (fun(Q:Nat×Operand)=>(Q.1,ρ Q.2))=⟨E.toList.map fun p=>(p.1,ρ p.2)⟩:=by apply j3;simp
  simp only[execOp];rw[D];exact hO h2
 case load t a=>
  rw[Y]at h;obtain⟨m,h2⟩:=Yn h (e a) g;exact⟨m.ok,fun ok=>hO (h2 ok)⟩
 case store t a v=>
  unfold Ev at h;split at h
  case h_2=>cases h
  rename_i ad ah;simp only[aD,aO]at h;obtain⟨rfl,rfl⟩:=h;obtain⟨h1,h2⟩:=Yr ah (e a) (e v) g;exact⟨h1,fun ok=>Y6 (h2 ok)⟩
 case nilCheck a=>
  have s:=e a;unfold BS at h;split at h
  ·rename_i b ae A;simp only[aD,aO]at h;obtain⟨rfl,rfl⟩:=h;rw[A]at s;refine⟨id,fun _=>?_⟩;obtain⟨O,K,q⟩:=s.qK;have:=qM.val (P:=C.P) g s;rw[q]at this;simp only[execOp,q];exact this
  ·rename_i b ae A;simp only[aD,aO]at h;obtain⟨rfl,rfl⟩:=h;rw[A]at s;refine⟨id,fun _=>?_⟩;have q:=s.Cm;have:=qM.val (P:=C.P) g s;rw[q]at this;simp only[execOp,q];exact this
  ·rename_i aW aj ak;split at h
   case h_2=>cases h
   rename_i f n;split at h
   case h_2=>cases h
   rename_i name;split at h
   case h_2=>cases h
   split at h
   case h_2=>cases h
   rename_i aX;split at h
   case h_2=>cases h
   rename_i aY aZ;split at h
   case h_2=>cases h
   rename_i t;split at h
   case h_2=>cases h
   rename_i a0;split at h
   case h_2=>cases h
   rename_i b ae;split at h
   case h_2=>cases h
   rename_i al am;simp only[aD,aO]at h;obtain⟨rfl,rfl⟩:=h;rw[ak]at s;refine⟨id,fun _=>?_⟩;have this:=qM.val (P:=C.P) g s;obtain⟨p,q⟩:∃p,ρ a=.func (.method name) #[.iface t (.pointer (some p))] #[]:=by
    generalize ρ a=u at s;cases s with
    |fn _ _ _ first captured J T U=>
     match first,J with
     |[V],_=>
      have N:captured=[]:=by
       cases captured with
       |nil=>rfl|cons c cs=>simp at T
      subst N;have W:=U 0 _ V rfl rfl;cases W with
      |iq _ _ a1 h1=>
       obtain⟨O,_,an⟩:=h1.qK;subst an;exact⟨_,rfl⟩
   rw[q]at this;have J:=lV.PM t name al am p w;obtain⟨ao,V,ap,h1,h2⟩:=this;refine⟨ao,V,ap,?_,h2⟩;rw[←h1];simp[execOp,q,J]
  ·cases h
 case binOp M t j aq a2=>
  obtain⟨m,h2⟩:=Y0 h (e j) (e aq) g;exact⟨m.ok,fun ok=>hO (h2 ok)⟩
 case unOp M t j=>
  obtain⟨r,y⟩:=tH h;clear h;have h:=r;clear r;subst y;refine⟨id,fun _=>?_⟩;have x:=e j;have J:b5 (ev j) (ρ j):=by
   cases F:ev j with
   |num n=>rw[F]at x;rw[x.num_inv];exact .num n|atom a=>
    cases a with
    |bool b=>rw[F]at x;rw[x.tC];exact .bool b|_=>rw[F]at h;simp[unop]at h
   |_=>rw[F]at h;simp[unop]at h
  obtain⟨v,h1,h2⟩:=Xf (P:=C.P) w J h;exact hO (Does.pure g (Pure.refl _) h1 (aC.oU h2))
 case convert ar Z j=>
  unfold zw at h;split at h
  ·cases h
  rename_i a3 au;split at h
  case h_3=>cases h
  case h_2=>
   rename_i D X;unfold zv at h;split at h
   ·cases h
   rename_i av;have aw:ar=Z:=qz av;split at h
   case h_2=>cases h
   rename_i ax;split at h
   case h_2=>cases h
   rename_i b o n a4 q;split at h
   case h_1=>cases h
   case h_3=>cases h
   rename_i ay az A;simp only[aD,aO]at h;obtain⟨rfl,rfl⟩:=h;have aA:ay.full:=fun f l D=>az f l (by rw[D]);rw[cg]at A;have x:=e j;refine⟨id,fun _=>?_⟩;rw[q]at x;obtain⟨a,c,aB,aF,_,aH⟩:=x.pW;have aI:c≠0:=by
    have:n+1≤c:=aF;omega
   rcases aH with W|⟨O,K,s,a5⟩
   ·exact absurd W aI
   subst s;obtain⟨ag,aJ,U,aK⟩:=g.mark A K;subst aw;rw[q];refine hO ⟨_,_,?_,Ym w (g.Yj A rfl K) _ _,fun _=>⟨β,x,U,aK⟩⟩;rw[aB];have aL:¬aG.shr O.c:=((g.Yk A rfl K).tD aA).2;simp[convert,cN X,cN ax,markStringish,at',aJ,WB,aL]
  rename_i k X;have x:=e j;cases F:ev j with
  |num n=>
   rw[F]at h x;simp only[w9]at h;obtain⟨m,q⟩:=Xe h;refine⟨m.ok,fun ok=>?_⟩;refine hO (Does.pure g m (v:=.int k (k.wrap n.z.v)) ?_ (aC.oU (q ok)));rw[x.num_inv];simp[convert,cN au,cN X,bk.val,Conv.intToInt]
  |_=>rw[F]at h;simp[w9]at h
 case sliceToArrayPointer t j=>
  obtain⟨m,h2⟩:=YP h (e j) g;exact⟨m.ok,fun ok=>hO (h2 ok)⟩
 case makeInterface t j=>
  unfold BT at h;split at h
  ·cases h
  ·cases h
  rename_i d aN aP;simp only[aD,aO]at h;obtain⟨rfl,rfl⟩:=h;refine⟨id,fun _=>?_⟩;refine hO (Does.pure g (Pure.refl _) (v:=.iface t (ρ j)) ?_ (.iq t _ _ (e j)));cases d<;>first|(simp[Instr.makeInterface,cN aP];done)|(exact absurd rfl (aN _))
 case makeFunc fn first captured=>
  simp only[aD,aO]at h;obtain⟨rfl,rfl⟩:=h;refine⟨id,fun _=>?_⟩;have h1:=Cw e first.toList;have h2:=Cw e captured.toList;have h3:=h1.append h2;refine hO (Does.pure g (Pure.refl _) (v:=.func fn ⟨first.toList.map ρ⟩ ⟨captured.toList.map ρ⟩) ?_ (.fn fn _ _ _ _ h1.1.symm h3.1 h3.2));have aQ:first.map ρ=⟨first.toList.map ρ⟩:=by apply j3;simp
  have aS:captured.map ρ=⟨captured.toList.map ρ⟩:=by apply j3;simp
  rw[←aQ,←aS];rfl
 case makeSlice t l c=>
  obtain⟨h1,h2⟩:=YC h (e l) (e c) g;exact⟨h1,fun ok=>hO (h2 ok)⟩
 case slice t j lo hi aT=>
  obtain⟨m,h2⟩:=Yv h (e j) (Jn e lo) (Jn e hi) (Jn e aT) g;exact⟨m.ok,fun ok=>hO (h2 ok)⟩
 case fieldAddr t j f=>
  obtain⟨r,y⟩:=tH h;clear h;have h:=r;clear r;subst y;exact⟨id,fun _=>hO (Yt h (e j) g)⟩
 case field t j f=>
  obtain⟨r,y⟩:=tH h;clear h;have h:=r;clear r;subst y;exact⟨id,fun _=>hO (YN h (e j) g)⟩
 case indexAddr t j i=>
  obtain⟨m,h2⟩:=Ys h (e j) (e i) g;exact⟨m.ok,fun ok=>hO (h2 ok)⟩
 case index t j i=>
  obtain⟨m,h2⟩:=YO h (e j) (e i) g;exact⟨m.ok,fun ok=>hO (h2 ok)⟩
 case extract t i=>
  unfold BU at h;split at h
  case h_2=>cases h
  rename_i aj aU;obtain⟨r,y⟩:=tH h;clear h;have h:=r;clear r;subst y;have I:=e t;rw[aU]at I;obtain⟨vs,q,T⟩:=I.Yd;rw[cg]at h;obtain⟨v,h1,h2⟩:=T.get h;refine⟨id,fun _=>hO (Does.pure g (Pure.refl _) (v:=v) ?_ h2)⟩;rw[q];simp[Instr.extract,h1]
def Y8{C:eJ}{c:Call}{ev:Operand→af}{ρ:Operand→Value}{Q:af}{d:Oper}{S R:ai}(m:d.op=.call c)(h:xh C c ev S=some (Q,R))(n:∀Q,aC β (ev Q) (ρ Q))(f:aM G β S.H w):
 (R.ok→S.ok)∧(R.ok→qM C.P G β S w (execOp ρ d) Q R):=by
 unfold xh at h;split at h
 case h_2=>cases h
 rename_i b o;have g:=Cw n c.args.toList;have p:c.args.map ρ=⟨c.args.toList.map ρ⟩:=by apply j3;simp
 have ex:∃l,execOp ρ d=builtin b c.argTypes d.type l ⟨c.args.toList.map ρ⟩:=by
  refine⟨c.args.map fun|.const _=>true|_=>false,?_⟩;simp only[execOp,m,resolve,o,p];rfl
 obtain⟨l,q⟩:=ex;rw[q];have r:c.argTypes=⟨c.argTypes.toList⟩:=rfl;generalize c.argTypes.toList=ts at *;rw[r];generalize lO ev c.args.toList=x at *;generalize c.args.toList.map ρ=vs at *;unfold BO at h;split at h
 ·obtain⟨a,e⟩:=tH h;clear h;have h:=a;clear a;subst e;exact⟨id,fun _=>hO (YQ h g f)⟩
 ·obtain⟨a,e⟩:=tH h;clear h;have h:=a;clear a;subst e;exact⟨id,fun _=>hO (YR h g f)⟩
 ·obtain⟨h1,h2⟩:=Y5 (P:=C.P) (ty:=d.type) h g f;exact⟨h1,fun ok=>hO (h2 ok)⟩
 ·obtain⟨h1,h2⟩:=YJ (P:=C.P) (ty:=d.type) h g f;exact⟨h1,fun ok=>hO (h2 ok)⟩
 ·split at h
  case h_2=>cases h
  obtain⟨a,e⟩:=tH h;clear h;have h:=a;clear a;subst e;obtain⟨s,t,rfl,i,j⟩:=g.cons_inv;obtain⟨u,v,rfl,k,bf⟩:=j.cons_inv;have:=bf.r7;subst this;have:=PI (P:=C.P) (w:=w) (G:=G) (S:=R) (ty:=d.type) (ts:=⟨ts⟩) h i k f;exact⟨id,fun _=>hO this⟩
 ·split at h
  case h_2=>cases h
  obtain⟨a,e⟩:=tH h;clear h;have h:=a;clear a;subst e;obtain⟨s,t,rfl,i,j⟩:=g.cons_inv;obtain⟨u,v,rfl,k,bf⟩:=j.cons_inv;have:=bf.r7;subst this;have:=PI (P:=C.P) (w:=w) (G:=G) (S:=R) (ty:=d.type) (ts:=⟨ts⟩) h i k f;exact⟨id,fun _=>hO this⟩
 ·cases h
end
end
section
variable [aR][aG]
def ai.cV(Q:List ah)(low:Nat)(cs:List Bool)(S:ai):ai:=⟨Q,low,S.dec,S.cond++cs⟩
def dS{a:Type}(Q:List ah)(low:Nat)(cs:List Bool)(p:a×ai):a×ai:=(p.1,p.2.cV Q low cs)
section
variable{Q:List ah}{low:Nat}{cs:List Bool}{S:ai}
def Y9(b:B):b.test (S.cV Q low cs)=(b.test S).map (dS Q low cs):=by
 cases b with
 |c b=>rfl|s b=>
  simp only[B.test,ai.cV];cases S.dec<;>rfl
def nE(b:B):b.cj (S.cV Q low cs)=(b.cj S).map (ai.cV Q low cs):=by
 cases b with
 |c b=>cases b<;>rfl
 |s b=>rfl
def z7(v:Option af):val (S.cV Q low cs) v=(val S v).map (dS Q low cs):=by cases v<;>rfl
def Za(a:BinOp)(n:Nat)(mk:BitVec n→af)(b c:BitVec n):za a n mk b c (S.cV Q low cs)=(za a n mk b c S).map (dS Q low cs):=by
 unfold za;cases Ic a<;>rfl
def PN{n:Nat}(mk:BitVec n→af)(c:BinOp)(a b:Option (BitVec n)):oD mk c a b (S.cV Q low cs)=(oD mk c a b S).map (dS Q low cs):=by
 cases a<;>cases b<;>simp[oD,Za]
def Zb(a:BinOp)(n:Nat)(mk:BitVec n→af)(b:BitVec n)(c:Nat):Bx a n mk b c (S.cV Q low cs)=(Bx a n mk b c S).map (dS Q low cs):=by
 unfold Bx;cases Ie a<;>rfl
def Zc{n:Nat}(mk:BitVec n→af)(b:BinOp)(d:BitVec n)(a:Z):tc mk b d a (S.cV Q low cs)=(tc mk b d a S).map (dS Q low cs):=by
 unfold tc;rw[nE];cases((Z.c 0).le a).cj S<;>simp[Zb]
def Zd(c:BinOp)(k:IntKind)(a b:Int):uK c k a b (S.cV Q low cs)=(uK c k a b S).map (dS Q low cs):=by
 unfold uK BA;cases c<;>rfl
def Ze(a:BinOp)(k:IntKind)(b c:Z):intArith a k b c (S.cV Q low cs)=(intArith a k b c S).map (dS Q low cs):=by
 unfold intArith;cases qB a with
 |some f=>rfl|none=>
  cases b<;>cases c<;>simp only[Zd];cases Bz a with
  |none=>rfl|some f=>dsimp only;cases f k _ _<;>rfl
def Zf(k:IntKind)(z:Z)(d:BinOp)(e:Z):zb k z d e (S.cV Q low cs)=(zb k z d e S).map (dS Q low cs):=by
 unfold zb;cases e with
 |s _=>rfl|c b=>
  dsimp only;cases kJ 0 b with
  |false=>rfl|true=>
   cases z with
   |c a=>dsimp only;cases BB d k a b.toNat<;>rfl
   |s a=>
    dsimp only;cases Nat.blt b.toNat k.bits with
    |false=>rfl|true=>cases d<;>rfl
def Zg(a:bk)(b:BinOp)(c:Z):BC a b c (S.cV Q low cs)=(BC a b c S).map (dS Q low cs):=by
 cases a<;>simp only[BC,Zf,Zc]
def Zh(k:IntKind)(a:Z)(b:bk)(c:BinOp):BD k a b c (S.cV Q low cs)=(BD k a b c S).map (dS Q low cs):=by
 cases b<;>simp only[BD,PN];cases rO k _<;>simp[Ze]
def Zi(a b:bk)(c:BinOp):zc a b c (S.cV Q low cs)=(zc a b c S).map (dS Q low cs):=by
 cases a<;>simp only[zc,Zh,PN]
def Zj(a:BinOp)(b c:af):binop a b c (S.cV Q low cs)=(binop a b c S).map (dS Q low cs):=by
 unfold binop;cases b<;>try rfl
 cases c<;>try rfl
 dsimp only;cases If a<;>simp only[Zg,Zi]
def Zk(P:Program)(c:BinOp)(t:TypeId)(d e:Operand)(a b:af):zu P c t d e a b (S.cV Q low cs)=(zu P c t d e a b S).map (dS Q low cs):=by
 unfold zu;rw[Zj];cases binop c a b S with
 |some r=>rfl|none=>
  simp only[Option.map_none];cases BN P t (isConst d||isConst e) a b with
  |none=>rfl|some r=>cases c<;>rfl
def Zl(k:IntKind)(n:Nat)(a b c d:af):uL k n a b c d (S.cV Q low cs)=(uL k n a b c d S).map (dS Q low cs):=by cases k<;>rfl
def Zm(n:Int)(k:IntKind):BE n k (S.cV Q low cs)=(BE n k S).map (dS Q low cs):=by cases k<;>rfl
def Zn(v:bk)(k:IntKind):w8 v k (S.cV Q low cs)=(w8 v k S).map (dS Q low cs):=by
 cases v with
 |int _ z=>cases z<;>simp only[w8,Zm];rfl
 |_=>simp only[w8,Zl]
def Zo(v:af)(k:IntKind):w9 v k (S.cV Q low cs)=(w9 v k S).map (dS Q low cs):=by
 cases v<;>simp only[w9,Zn]<;>rfl
def Zp(C:eJ)(a:TypeId)(same:Bool)(v:af)(c:same=true→∀b,Ew v=some b→aW b Q=aW b S.H):zv C a same v (S.cV Q low cs)=(zv C a same v S).map (dS Q low cs):=by
 unfold zv;cases same with
 |false=>rfl|true=>
  dsimp only;cases C.P.underlying a with
  |none=>rfl|some d=>
   cases d<;>try rfl
   rename_i k;cases k<;>try rfl
   dsimp only;split
   ·rename_i b _ _ _;have h:=c rfl b rfl
    show(match aW b Q with|some ⟨.lim ..,.own⟩=>_|some ⟨_,.own⟩=>_|_=>_)=_;rw[h];cases aW b S.H with
    |none=>rfl|some k=>obtain⟨d,m⟩:=k;cases m<;>cases d<;>rfl
   ·rfl
def PO(C:eJ)(a c:TypeId)(v:af)(e:Nat.beq a c=true→∀b,Ew v=some b→aW b Q=aW b S.H):zw C a c v (S.cV Q low cs)=(zw C a c v S).map (dS Q low cs):=by
 unfold zw;cases C.P.underlying a with
 |none=>rfl|some _=>
  dsimp only;cases f:C.P.underlying c with
  |none=>rfl|some d=>cases d<;>first|exact Zo .. |exact Zp _ _ _ _ e|rfl
def Zq(c a b:af):BP c a b (S.cV Q low cs)=(BP c a b S).map (dS Q low cs):=by
 unfold BP;cases c<;>try rfl
 rename_i at';cases at'<;>try rfl
 simp only[Y9];rename_i t;cases e:t.test S with
 |none=>rfl|some p=>obtain⟨d,f⟩:=p;cases d<;>rfl
def Zr(gx:Nat→String→Option FuncId)(v:af):BS gx v (S.cV Q low cs)=(BS gx v S).map (dS Q low cs):=by
 unfold BS
 repeat' split
 all_goals rfl
def Zs(P:Program)(t:TypeId)(a:af):zp P t a (S.cV Q low cs)=(zp P t a S).map (dS Q low cs):=by
 unfold zp;cases P.underlying t with
 |none=>rfl|some d=>
  cases d<;>try rfl
  rename_i n e;cases n<;>try rfl
  cases a<;>try rfl
  rename_i r;cases r<;>try rfl
  simp only[nE];rename_i n b f l g;cases(N.le (.c (n+1)) l).cj S<;>rfl
def Zt(C:eJ)(t:TypeId)(v:af):BT C t v (S.cV Q low cs)=(BT C t v S).map (dS Q low cs):=by
 unfold BT;cases C.P.underlying t with
 |none=>rfl|some d=>cases d<;>rfl
def Zu(b:Nat)(e len:N)(d:Option N)(lo hi a:Option af):BG b e len d lo hi a (S.cV Q low cs)=(BG b e len d lo hi a S).map (dS Q low cs):=by
 unfold BG;cases bound lo (.c 0)with
 |none=>rfl|some l=>
  dsimp only;cases bound hi len with
  |none=>rfl|some h=>
   cases d with
   |none=>
    cases a with
    |some _=>rfl|none=>
     simp only[nE];cases(gY l h len.toZ).cj S<;>rfl
   |some c=>
    cases a with
    |none=>
     simp only[nE];cases(gY l h c.toZ).cj S<;>rfl
    |some m=>
     dsimp only;cases m.bF with
     |none=>rfl|some m=>
      cases hi with
      |none=>rfl|some _=>
       simp only[nE];cases(B.and (gY l h m) (m.le c.toZ)).cj S<;>rfl
def Zv(P:Program)(t:TypeId)(a i:af):zj P t a i (S.cV Q low cs)=(zj P t a i S).map (dS Q low cs):=by
 unfold zj;cases i.bF with
 |none=>rfl|some z=>
  dsimp only;cases P.underlying t with
  |none=>rfl|some d=>
   cases d with
   |array n e=>
    dsimp only;cases eg P e with
    |none=>rfl|some f=>
     simp only[nE];cases(jM z (.c n)).cj S with
     |none=>rfl|some k=>
      cases a with
      |ref r=>cases r<;>rfl
      |_=>rfl
   |slice e=>
    dsimp only;cases eg P e with
    |none=>rfl|some f=>
     cases a with
     |ref r=>
      cases r with
      |sl b h l c=>
       simp only[nE];cases(jM z l.toZ).cj S<;>rfl
      |gs g h l=>
       simp only[nE];cases(jM z l.toZ).cj S<;>rfl
      |sm b l j=>
       simp only[nE];cases Nat.beq j f with
       |false=>rfl|true=>cases(jM z l.toZ).cj S<;>rfl
      |_=>rfl
     |_=>rfl
   |_=>rfl
def Zw(P:Program)(t:TypeId)(e i:af):zo P t e i (S.cV Q low cs)=(zo P t e i S).map (dS Q low cs):=by
 unfold zo;cases i.bF with
 |none=>rfl|some z=>
  dsimp only;cases P.underlying t with
  |none=>rfl|some d=>
   cases d with
   |string=>
    cases e with
    |atom a=>
     cases a with
     |str f=>
      cases z with
      |c z=>
       dsimp only;split<;>try rfl
       split<;>rfl
      |s k=>
       simp only[nE];cases(jM (.s k) (.c f.size)).cj S<;>rfl
     |_=>rfl
    |_=>rfl
   |array n g=>
    cases e<;>try rfl
    cases z with
    |s k=>
     dsimp only;cases eg P g with
     |none=>rfl|some f=>
      dsimp only;cases nq P g with
      |none=>rfl|some b=>
       cases b with
       |true=>rfl|false=>
        dsimp only;rename_i h;cases cU af.fF h with
        |none=>rfl|some l=>
         dsimp only;cases Nat.beq f 1&&Nat.beq l.length n with
         |false=>rfl|true=>
          simp only[nE];cases(jM (.s k) (.c n)).cj S<;>rfl
    |c z=>
    dsimp only;split<;>try rfl
    split<;>try rfl
    simp only[N5];rfl
   |_=>rfl
def Zx(v:af)(i:Nat):BU v i (S.cV Q low cs)=(BU v i S).map (dS Q low cs):=by
 unfold BU;cases v<;>try rfl
 rename_i t a;cases t<;>simp only[z7]<;>rfl
def PP(d:Data)(a:N):d.mE a (S.cV Q low cs)=(d.mE a S).map (dS Q low cs):=by
 cases d<;>try rfl
 cases a<;>simp only[Data.mE,N5]<;>rfl
def PR(d:Data)(a:N):d.get a (S.cV Q low cs)=(d.get a S).map (dS Q low cs):=by
 unfold Data.get;rw[PP];cases d.mE a S with
 |some r=>rfl|none=>
  cases d.words with
  |none=>
   show d.zf a (S.cV Q low cs)=(d.zf a S).map (dS Q low cs);unfold Data.zf;cases d.mid<;>rfl
  |some b=>exact PP b a
def PS(d:Data)(n:Nat)(a:N):d.mG n a (S.cV Q low cs)=(d.mG n a S).map (dS Q low cs):=by
 cases d<;>try rfl
 cases a<;>simp only[Data.mG,N5]<;>rfl
def Zy(d:Data)(n:Nat)(a:N):d.cells n a (S.cV Q low cs)=(d.cells n a S).map (dS Q low cs):=by
 unfold Data.cells;rw[PS];cases d.mG n a S with
 |some r=>rfl|none=>
  cases d.words with
  |none=>rfl|some b=>exact PS b n a
end
end
section
variable [aR][aG]
variable{b:Nat}{V:Type}{U:Op}{S':ai}{Q:Nat}
structure Ext(S S':ai):Prop where
 ok:S'.ok→S.ok
 low:S'.low≤S.low
 len:S.H.length≤S'.H.length
 same:∀b,b<S.H.length→b<S'.low→aW b S'.H=aW b S.H
 bn:∀b k,aW b S.H=some k→k.mode=.bn→aW b S'.H=some k
 ro:∀b k,aW b S'.H=some k→k.mode=.ro→aW b S.H=some k
def se{l:List V}{k:V}(h:aW b l=some k):b<l.length:=by
 rw[cg]at h;rcases cu b l.length with a|a
 ·exact a
 ·rw[dz a]at h;cases h
def Ext.refl(S:ai):Ext S S:=⟨id,aV _,aV _,fun _ _ _=>rfl,fun _ _ h _=>h,fun _ _ h _=>h⟩
def Ext.trans{a b c:ai}(h:Ext a b)(k:Ext b c):Ext a c:=
 ⟨fun Q=>h.ok (k.ok Q),ga k.low h.low,ga h.len k.len,fun d e i=>(k.same d (dN e h.len) i).trans (h.same d e (dN i k.low)),
  fun d f e g=>k.bn d f (h.bn d f e g) g,fun d f e g=>h.ro d f (k.ro d f e g) g⟩
def Pure.ext{S:ai}(h:Pure S S'):Ext S S':=
 ⟨h.ok,pI h.low,by rw[h.H];exact aV _,fun b _ _=>by rw[h.H],fun b k a _=>by rw[h.H];exact a,fun b k a _=>by rw[←h.H];exact a⟩
def kQ(v:V)(b a:Nat)(l:List V):aW a (fc v b l)=if b=a∧b<l.length then some v else aW a l:=by
 rw[cg,cg,iN,wW];by_cases c:b=a
 ·subst c;by_cases h:b<l.length
  ·simp[h]
  ·simp[h]
 ·simp[c]
def Zz(v:V)(a:Nat)(l:List V):aW a (l++[v])=if a=l.length then some v else aW a l:=by
 rw[cg,cg];rcases wV a l.length with h|h|h
 ·rw[gV h];simp[show a≠l.length by omega]
 ·subst h;simp
 ·rw[gL (by omega),dz (by simp;omega),ak (by omega),dz (by omega)]
def Cx{S:ai}{d:Data}(h:S.write b d=some S'):Ext S S':=by
 unfold ai.write at h;split at h
 ·rename_i j m f;split at h
  ·simp only[aD]at h;subst h;refine⟨fun Q=>Q,Bm _ _,by simp[iN],fun c a g=>?_,fun c k a e=>?_,fun c k a e=>?_⟩
   ·have:c<b:=dN g (Bn _ _);rw[kQ,ak (by omega)]
   ·rw[kQ];split
    ·rename_i i;obtain⟨rfl,_⟩:=i;rw[f]at a;injection a with a;subst a;cases e
    ·exact a
   ·rw[kQ]at a;split at a
    ·injection a with a;subst a;cases e
    ·exact a
  ·cases h
 ·cases h
def PT(S:ai)(b:Nat)(e:∀k,aW b S.H=some k→k.mode≠.bn):Ext S (S.kill b):=by
 refine⟨fun Q=>Q,Bm _ _,by simp[ai.kill,iN],fun c a f=>?_,fun c k a d=>?_,fun c k a d=>?_⟩
 ·have:c<b:=dN f (Bn _ _);simp only[ai.kill];rw[kQ,ak (by omega)]
 ·simp only[ai.kill];rw[kQ];split
  ·rename_i g;obtain⟨rfl,_⟩:=g;exact absurd d (e k a)
  ·exact a
 ·simp only[ai.kill]at a;rw[kQ]at a;split at a
  ·injection a with a;subst a;cases d
  ·exact a
def qN(S:ai)(d:Data):Ext S (S.new d).2:=by
 have e:∀c,aW c (S.new d).2.H=if c=S.H.length then some ⟨d,.own⟩else aW c S.H:=fun c=>Zz _ c S.H
 refine⟨fun Q=>Q,aV _,by simp[ai.new],fun c a _=>?_,fun c k a f=>?_,fun c k a f=>?_⟩
 ·rw[e,ak (by omega)]
 ·have:=se a;rw[e,ak (by omega)];exact a
 ·rw[e]at a;split at a
  ·injection a with a;subst a;cases f
  ·exact a
def vv{f:ai→Option (V×ai)}{S:ai}{a:V}
 (c:∀(T:ai) cs,T.H=S.H→T.low=S.low→f (T.cV S.H S.low cs)=(f T).map (dS S.H S.low cs)) (h:f S=some (a,S')):Pure S S':=by
 have h1:=c ⟨S.H,S.low,S.dec,[]⟩ S.cond rfl rfl;have h2:(⟨S.H,S.low,S.dec,[]⟩:ai).cV S.H S.low S.cond=S:=rfl;rw[h2,h]at h1;cases h3:f ⟨S.H,S.low,S.dec,[]⟩with
 |none=>rw[h3]at h1;cases h1
 |some p=>
  rw[h3]at h1;simp only[ig,aD,dS,aO]at h1;obtain⟨_,rfl⟩:=h1;exact⟨rfl,rfl,fun Q b d=>Q b (by simp[ai.cV,d])⟩
def z8:Op→Bool
 |.move _|.assign _|.pick .. |.build .. |.nilCheck _|.binOp .. |.unOp .. |.sliceToArrayPointer .. |.makeInterface .. |.makeFunc ..|.fieldAddr .. |.field .. |.indexAddr .. |.index .. |.extract .. =>true|.convert a d _=> !Nat.beq a d|.call c=>
  match c.callee with
  |.builtin b=>
   match b with
   |.len|.cap|.min|.max=>true|_=>false
  |_=>false
 |_=>false
def isRead:Op→Bool|.load .. =>true|.slice .. =>true|.convert a d _=>Nat.beq a d|_=>false
section
variable{C:eJ}{call:gd}{ev:Operand→af}{R:List ah}{low:Nat}{cs:List Bool}{S:ai}
def FD(h:z8 U=true):dZ C call ev U (S.cV R low cs)=(dZ C call ev U S).map (dS R low cs):=by
 cases U<;>simp only[z8,nc]at h<;>(try dsimp only[dZ,nt])
 all_goals first
  |rfl|exact Zq ..|exact Zr ..|exact Zk ..|exact PO _ _ _ _ (fun a=>by rw[a]at h;cases h)
  |exact Zs ..|exact Zt ..|exact z7 ..|exact Zv ..|exact Zw ..|exact Zx ..|skip
 rename_i c;obtain⟨callee,args,d⟩:=c;cases callee<;>simp only[nc]at h;rename_i b;cases b<;>simp only[nc]at h<;>simp only[uS,BV,xh,BO]
 ·exact z7 ..
 ·exact z7 ..
 ·split<;>first|exact z7 .. |rfl
 ·split<;>first|exact z7 .. |rfl
def Jo(h:aW b R=aW b S.H):(S.cV R low cs).read b=S.read b:=by
 unfold ai.read;rw[show(S.cV R low cs).H=R from rfl,h]
def ZA(G:Nat→Option (List af))(a:af)(h:∀b,rR a=some b→aW b R=aW b S.H):uN G a (S.cV R low cs)=(uN G a S).map (dS R low cs):=by
 unfold uN;cases a with
 |ref r=>
  cases r with
  |ptr b Q=>
   dsimp only;rw[Jo (h b rfl)];cases S.read b with
   |none=>rfl|some d=>exact PR d Q
  |eC g Q=>
   dsimp only;cases G g with
   |none=>rfl|some l=>exact PR _ Q
  |_=>rfl
 |_=>rfl
def ZB(G:Nat→Option (List af))(a:af)(n:Nat)(h:∀b,rR a=some b→aW b R=aW b S.H):rP G a n (S.cV R low cs)=(rP G a n S).map (dS R low cs):=by
 unfold rP;cases a with
 |ref r=>
  cases r with
  |ptr b Q=>
   dsimp only;rw[Jo (h b rfl)];cases S.read b with
   |none=>rfl|some d=>exact Zy d n Q
  |eC g Q=>
   cases Q with
   |c Q=>
    dsimp only;cases n with
    |zero=>rfl|succ n=>
     cases G g with
     |none=>rfl|some l=>simp only[N5];rfl
   |s _=>rfl
  |_=>rfl
 |_=>rfl
def PU(P:Program)(G:Nat→Option (List af))(t:TypeId)(a:af)(h:∀b,rR a=some b→aW b R=aW b S.H):oH P G t a (S.cV R low cs)=(oH P G t a S).map (dS R low cs):=by
 unfold oH;cases nq P t with
 |none=>rfl|some b=>
  cases b with
  |true=>
   dsimp only;cases eg P t with
   |none=>rfl|some n=>
    dsimp only;rw[ZB G a n h];cases rP G a n S<;>rfl
  |false=>exact ZA G a h
def ZC(n a b:Nat)(Q:N)(lo hi e:Option af)(h:aW b R=aW b S.H):zk n a b Q lo hi e (S.cV R low cs)=(zk n a b Q lo hi e S).map (dS R low cs):=by
 unfold zk;cases bound lo (.c 0)with
 |none=>rfl|some l=>
  dsimp only;cases bound hi (.c n)with
  |none=>rfl|some f=>
   cases e with
   |some _=>rfl|none=>
    dsimp only;rw[Jo h];cases S.read b with
    |none=>rfl|some d=>
     simp only[nE];cases((Q.add (.c (n*a))).le d.js).cj S with
     |none=>rfl|some g=>
      simp only[ig,nE];cases(gY l f (.c n)).cj g<;>rfl
def ZD(P:Program)(t:TypeId)(e:af)(lo hi g:Option af)(h:BW P t=true→∀b,rR e=some b→aW b R=aW b S.H):xb P t e lo hi g (S.cV R low cs)=(xb P t e lo hi g S).map (dS R low cs):=by
 unfold xb;cases j:P.underlying t with
 |none=>rfl|some d=>
  cases d with
  |array n i=>
   cases e with
   |ref r=>
    cases r with
    |ptr b Q=>
     dsimp only;cases eg P i with
     |none=>rfl|some f=>
      cases f with
      |zero=>rfl|succ f=>exact ZC _ _ b Q lo hi g (h (by simp[BW,j]) b rfl)
    |_=>rfl
   |_=>rfl
  |slice i=>
   cases e with
   |ref r=>
    cases r with
    |sl b Q l c=>
     dsimp only;cases eg P i with
     |none=>rfl|some f=>
      rcases f with _|_|f
      ·rfl
      ·exact Zu ..
      ·rfl
    |_=>rfl
   |atom a=>
    cases a with
    |cD=>
     dsimp only;cases g with
     |some _=>rfl|none=>
      cases eg P i with
      |none=>rfl|some _=>
       dsimp only;cases bound lo (.c 0)with
       |none=>rfl|some l=>
        dsimp only;cases bound hi (.c 0)with
        |none=>rfl|some k=>
         simp only[nE];cases(gY l k (.c 0)).cj S<;>rfl
    |_=>rfl
   |_=>rfl
  |_=>rfl
def Cy(h:isRead U=true)(a:∀b,mJ C.P ev U=some b→aW b R=aW b S.H):dZ C call ev U (S.cV R low cs)=(dZ C call ev U S).map (dS R low cs):=by
 cases U<;>simp only[isRead,nc]at h
 case convert g d i=>exact PO _ _ _ _ (fun e b c=>a b (by simp only[mJ,e];exact c))
 ·exact PU _ _ _ _ a
 ·exact ZD _ _ _ _ _ _ fun f b c=>a b (by simp only[mJ,f];exact c)
def cellOf(Q:Nat)(k:Option ah):Option ah ⊕ (af×Mode):=
 match k with
 |some ⟨.gen l,m⟩=>
  match aW Q l with
  |some a=>.inr (a,m)|none=>.inl none
 |k=>.inl k
def ZE{k:Option ah}{a:af}{m:Mode}(h:cellOf Q k=.inr (a,m)):∃l,k=some ⟨.gen l,m⟩∧aW Q l=some a:=by
 unfold cellOf at h;split at h
 ·split at h
  ·rename_i c;simp only[Sum.inr.injEq,aO]at h;obtain⟨rfl,rfl⟩:=h;exact⟨_,rfl,c⟩
  ·cases h
 ·cases h
def Jp{P:Program}{ev:Operand→af}{S:ai}(h:tq P ev U S=some (b,Q)):∃t a l m d,U=.load t a∧nq P t=some false∧ev a=.ref (.ptr b (.c Q))∧aW b S.H=some ⟨.gen l,m⟩∧aW Q l=some d:=by
 unfold tq at h
 repeat'(split at h)
 all_goals(try(cases h;done))
 rename_i d e;simp only[aD,aO]at h;obtain⟨rfl,rfl⟩:=h;exact⟨_,_,_,_,d,rfl,by assumption,by assumption,by assumption,e⟩
def ZF(h:tq C.P ev U S=some (b,Q))(c:cellOf Q (aW b R)=cellOf Q (aW b S.H)):dZ C call ev U (S.cV R low cs)=(dZ C call ev U S).map (dS R low cs):=by
 obtain⟨t,a,l,m,d,rfl,h1,h2,h3,h4⟩:=Jp h;have e:cellOf Q (aW b S.H)=.inr (d,m):=by rw[h3];simp only[cellOf,h4]
 obtain⟨f,g,i⟩:=ZE (c.trans e);have j:aW b (S.cV R low cs).H=some ⟨.gen f,m⟩:=g;simp only[dZ,nt,h2,oH,h1,uN,ai.read,h3,j];cases m<;>simp only[Data.get,Data.mE,h4,i,ig,Option.map_none]<;>rfl
end
end
section
variable [aR][aG]
variable{Q:af}{P:Program}{t:TypeId}{W:List TypeId}{X:List af}{U:Op}{v:af}{n:N}{l c:af}
section
variable{C:eJ}{call:gd}{ev:Operand→af}{S R:ai}
def ZG{a:af}(h:zh P t a v S=some R):Ext S R:=by
 unfold zh at h
 repeat'(split at h)
 all_goals first
  |(cases h;done)
  |(rename_i b;exact(Data.pY b).1.ext.trans (Cx h))|(rename_i b;exact(Data.Jd b).1.ext.trans (Cx h))
def z9{d:Data}(h:lg Q n S=some (d,R)):Pure S R:=by
 unfold lg at h
 repeat'(split at h)
 all_goals first
  |(cases h;done)
  |exact(Data.vt h).1|(simp only[aD,aO]at h;obtain⟨_,rfl⟩:=h;exact Pure.refl _)
def ZH{b:Nat}{e l:N}{f:Option N}{g:Data}(h:zm b e l f n g S=some (Q,R)):Ext S R:=by
 unfold zm at h
 repeat'(split at h)
 all_goals(try(cases h;done))
 all_goals(simp only[aD,aO]at h;obtain⟨_,rfl⟩:=h)
 ·exact(Data.pY ‹Data.over _ _ _ _=some _›).1.ext.trans (Cx ‹ai.write _ _ _=some _›)
 ·exact(Data.vt ‹Data.sub _ _ _ _=some _›).1.ext.trans (qN _ _)
 ·exact(B.oO ‹B.test _ _=some _›).1.ext.trans ((B.fT ‹B.cj _ _=some _›).1.ext.trans ((Data.pY ‹Data.over _ _ _ _=some _›).1.ext.trans (Cx ‹ai.write _ _ _=some _›)))
 ·exact(B.oO ‹B.test _ _=some _›).1.ext.trans ((Data.vt ‹Data.sub _ _ _ _=some _›).1.ext.trans (qN _ _))
 ·have d:=(B.fT ‹B.cj _ _=some _›).1;have i:=‹aW b S.H=some _›;exact(d.ext.trans (PT _ _ fun k a=>by rw[d.H,i]at a;injection a with a;subst a;simp)).trans (qN _ _)
def ZI(h:BH P W X S=some (Q,R)):Ext S R:=by
 unfold BH at h
 repeat'(split at h)
 all_goals(try(cases h;done))
 ·simp only[aD,aO]at h;obtain⟨_,rfl⟩:=h;exact(z9 ‹lg _ _ _=some _›).ext
 ·simp only[aD,aO]at h;obtain⟨_,rfl⟩:=h;exact((z9 ‹lg _ _ _=some _›).trans (B.fT ‹B.cj _ _=some _›).1).ext.trans (qN _ _)
 ·exact((z9 ‹lg _ _ _=some _›).trans (B.fT ‹B.cj _ _=some _›).1).ext.trans (ZH h)
def ZJ{e bytes:Nat}{cs:List af}{r:af}(h:BI Q e bytes cs S=some (r,R)):Ext S R:=by
 unfold BI at h
 repeat'(split at h)
 all_goals(try(cases h;done))
 ·simp only[aD,aO]at h;obtain⟨_,rfl⟩:=h;exact(B.fT ‹B.cj _ _=some _›).1.ext.trans (qN _ _)
 ·simp only[aD,aO]at h;obtain⟨_,rfl⟩:=h;have b:=(B.fT ‹B.cj (N.eq _ _) _=some _›).1;have d:=(B.fT ‹B.cj (N.fits _) _=some _›).1;have f:=‹aW _ _=some _›;exact(b.trans d).ext.trans ((PT _ _ (by
   rw[(b.trans d).H];intro k a;rw[f]at a;injection a with a;subst a;intro h;cases h)).trans (qN _ _))
def ZK(h:BJ P W X S=some (Q,R)):Ext S R:=by
 unfold BJ at h;split at h
 ·rename_i r a;cases h;exact ZI a
 ·unfold Ih at h
  repeat'(split at h)
  all_goals(try(cases h;done))
  exact ZJ h
def ZL(h:zn P W X S=some (Q,R)):Ext S R:=by
 unfold zn at h
 repeat'(split at h)
 all_goals(try(cases h;done))
 all_goals(simp only[aD,aO]at h;obtain⟨_,rfl⟩:=h)
 ·exact(((z9 ‹lg _ _ _=some _›).trans (Data.pY ‹Data.over _ _ _ _=some _›).1).ext).trans (Cx ‹ai.write _ _ _=some _›)
 ·exact(z9 ‹lg _ _ _=some _›).ext
def PV(h:tf P t l c S=some (Q,R)):Ext S R:=by
 unfold tf at h
 repeat'(split at h)
 all_goals(try(cases h;done))
 simp only[aD,aO]at h;obtain⟨_,rfl⟩:=h;have h1:=B.fT ‹B.cj (N.fits _) _=some _›;have h2:=B.fT ‹B.cj (gY _ _ _) _=some _›;exact(h2.1.trans h1.1).ext.trans (qN _ _)
def ZM(h:BK P t l c S=some (Q,R)):Ext S R:=by
 unfold BK at h;split at h
 ·rename_i r a;cases h;exact PV a
 ·unfold Et at h
  repeat'(split at h)
  all_goals(try(cases h;done))
  simp only[aD,aO]at h;obtain⟨_,rfl⟩:=h;have h1:=B.fT ‹B.cj (N.fits _) _=some _›;have h2:=B.fT ‹B.cj (gY _ _ _) _=some _›;exact(h2.1.trans h1.1).ext.trans (qN _ _)
def PW{n:Nat}{a:List (Nat×af)}(h:tg P t n a S=some (Q,R)):Ext S R:=by
 unfold tg at h
 repeat'(split at h)
 all_goals(try(cases h;done))
 simp only[aD,aO]at h;obtain⟨_,rfl⟩:=h;exact qN _ _
def ZN(h:BQ C t S=some (Q,R)):Ext S R:=by
 unfold BQ at h;split at h
 ·simp only[aD,aO]at h;obtain⟨_,rfl⟩:=h;exact qN _ _
 ·cases h
def ZO(h:BR v S=some (Q,R)):Ext S R:=by
 unfold BR at h;split at h
 ·simp only[aD,aO]at h;obtain⟨_,rfl⟩:=h;exact qN _ _
 ·cases h
def xK(call:gd):Prop:=∀f args S v R,call f args S=some (v,R)→Ext S R
def Cz(g:xK call)(h:dZ C call ev U S=some (Q,R)):Ext S R:=by
 cases d:z8 U with
 |true=>exact(vv (f:=dZ C call ev U) (fun T cs _ _=>FD d) h).ext|false=>
  cases e:isRead U with
  |true=>exact(vv (f:=dZ C call ev U) (fun T cs i _=>Cy e (fun b _=>by rw[i])) h).ext|false=>
   cases U<;>simp only[z8,isRead,reduceCtorEq]at d e<;>dsimp only[dZ,nt]at h<;>(try(cases h;done))
   case convert=>rw[e]at d;cases d
   case alloc=>exact ZN h
   case box=>exact ZO h
   case buildSlice=>exact PW h
   case makeSlice=>exact ZM h
   case store t a v=>
    unfold Ev at h;split at h
    ·rename_i h1;simp only[aD,aO]at h;obtain⟨_,rfl⟩:=h;exact ZG h1
    ·cases h
   case call c=>
    unfold uS at h;split at h
    ·unfold xh at h;split at h
     ·rename_i b j;cases b<;>simp only[j,reduceCtorEq]at d<;>simp only[BO]at h<;>first
       |(cases h;done)
       |exact ZK h|exact ZL h
     ·cases h
    ·split at h
     ·split at h
      ·simp only[aD,aO]at h;obtain⟨_,rfl⟩:=h;exact .refl _
      ·exact g _ _ _ _ _ h
     ·cases h
def kinds(U:Op):z8 U=true∨isRead U=true∨gf U=true∨kN U=true∨∀(C:eJ) call ev S,dZ C call ev U S=none:=by
 cases U<;>simp[z8,isRead,gf,kN,dZ,nt]
 case convert a d Q=>
  cases e:Nat.beq a d with
  |false=>exact .inl rfl|true=>exact .inr (.inl (qz e))
 rename_i c;obtain⟨callee,args,f⟩:=c;cases callee<;>simp;rename_i b;cases b<;>simp
end
section
variable{C:eJ}{call:gd}{ev V:Operand→af}
def CB:∀{l:List Operand},(∀Q∈l,ev Q=V Q)→lO ev l=lO V l|[],_=>rfl|Q::l,h=>by simp[lO,h Q (lK ..),CB (l:=l) fun a b=>h a (ng _ b)]
def FE:∀{l:List (Nat×Operand)},(∀p∈l,ev p.2=V p.2)→pP ev l=pP V l
 |[],_=>rfl|(i,Q)::l,h=>by
  have:=h (i,Q) (lK ..);simp only at this;simp[pP,this,FE (l:=l) fun a b=>h a (ng _ b)]
def Jq{a:Option Operand}(h:∀Q∈a,ev Q=V Q):oK ev a=oK V a:=by
 cases a with
 |none=>rfl|some Q=>simp[oK,h Q rfl]
def ZP{c:Call}(h:∀Q∈c.operands,ev Q=V Q):callee C ev c=callee C V c:=by
 have d:lO ev c.args.toList=lO V c.args.toList:=CB fun Q e=>h Q (by simp[Call.operands,H6.2 e]);unfold callee;rw[d];cases a:c.callee with
 |value f=>have:ev f=V f:=h f (by simp[Call.operands,a]);simp only[this]
 |invoke r m=>have:ev r=V r:=h r (by simp[Call.operands,a]);simp only[this]
 |builtin b=>rfl
def ZQ(h:∀Q∈U.operands,ev Q=V Q)(S:ai):dZ C call ev U S=dZ C call V U S:=by
 cases U<;>simp only[Op.operands]at h<;>dsimp only[dZ,nt]
 case call c=>
  unfold uS xh;rw[ZP h];have g:lO ev c.args.toList=lO V c.args.toList:=CB fun Q a=>h Q (by simp[Call.operands,H6.2 a]);rw[g]
 case build t i=>rw[FE fun p e=>h p.2 (by simp;exact⟨p.1,Wj.1 e⟩)]
 case buildSlice t n i=>rw[FE fun p e=>h p.2 (by simp;exact⟨p.1,Wj.1 e⟩)]
 case makeFunc fn first captured=>
  rw[CB (l:=first.toList) fun Q a=>h Q (by simp[H6.2 a]),CB (l:=captured.toList) fun Q a=>h Q (by simp[H6.2 a])]
 case slice t Q lo hi f=>
  have h1:ev Q=V Q:=h Q (by simp);have h2:oK ev lo=oK V lo:=Jq fun b d=>h b (by simp[Wk.1 d]);have h3:oK ev hi=oK V hi:=Jq fun b d=>h b (by simp[Wk.1 d]);have h4:oK ev f=oK V f:=Jq fun b d=>h b (by simp[Wk.1 d]);rw[h1,h2,h3,h4]
 all_goals(first|rfl|(simp_all;done))
def ZR(h:∀Q∈U.operands,ev Q=V Q):mJ P ev U=mJ P V U:=by
 cases U<;>simp only[Op.operands]at h<;>dsimp only[mJ]
 case load t a=>rw[h a (by simp)]
 case slice t a lo hi b=>rw[h a (by simp)]
 case convert e d Q=>rw[h Q (by simp)]
end
end
section
variable [aR][aG]
variable{call:gd}{S S':ai}{x:af}{v:Value}{o:Oper}{ops:Array Oper}{b:Bool}
class nF where
 ds:List Deferred
instance PX:nF:=⟨[]⟩
variable [nF]
structure cK(an bE:Nat)(β:aE)(F:aJ)(a:Act):Prop where
 val:∀t,aC β (F.get an t) (a.tmps.getD t undef)
 size:a.tmps.size=bE
 defers:a.defers=nF.ds
section
variable{an bE:Nat}{β R:aE}{F:aJ}{a:Act}
def cK.mono(h:cK an bE β F a)(c:aE.le β R):cK an bE R F a:=⟨fun t=>(h.val t).mono c,h.size,h.defers⟩
def cK.ev(h:cK an bE β F a)(x:Operand):aC β (F.ev an x) (a.eval x):=by
 cases x with
 |tmp t=>exact h.val t|const v=>exact IY β v|global g=>have:=aC.eC (β:=β) (2*g) (.c 0);rw[show gz (2*g) (N.c 0).v=at' g 0 from IW g 0]at this;exact this
 |func f=>exact .fn (.func f) 0 [] [] [] rfl rfl (fun i x v d=>by simp at d)
def aJ.PY(an:Nat)(F:aJ){d t:Nat}(v:af)(h:t≠d):(F.put an (some d) v).get an t=F.get an t:=by
 cases e:Nat.blt d an with
 |true=>
  cases c:Nat.blt t an with
  |true=>simp only[aJ.put,e,aJ.get,c,cg,iN,mw (fC h)]|false=>simp only[aJ.put,e,aJ.get,c]
 |false=>
  cases c:Nat.blt t an with
  |true=>simp only[aJ.put,e,aJ.get,c]|false=>
   simp only[aJ.put,e,aJ.get,c,kM];cases f:Nat.beq d t with
   |true=>exact absurd (by simpa using f:d=t).symm h|false=>rfl
def aJ.PZ(an:Nat)(F:aJ)(d:Nat)(v:af):(F.put an (some d) v).get an d=v∨(F.put an (some d) v).get an d=.aa:=by
 cases c:Nat.blt d an with
 |true=>
  simp only[aJ.put,c,aJ.get,cg,iN];rcases cu d F.vars.length with h|h
  ·left;simp[h]
  ·right;simp[h]
 |false=>
  simp only[aJ.put,c,aJ.get,kM];left;have:Nat.beq d d=true:=by simp
  simp only[this]
def cK.put(h:cK an bE β F a){d:Option Nat}(e:∀x,d=some x→x<bE)(f:aC β x v):cK an bE β (F.put an d x) (a.put d v):=by
 cases d with
 |none=>exact h|some d=>
  have g:=e d rfl;refine⟨fun t=>?_,by simp[Act.put,h.size],h.defers⟩;have i:(a.put (some d) v).tmps.getD t undef=if t=d then v else a.tmps.getD t undef:=by
   simp only[Act.put,gX,NV];by_cases c:t=d
   ·subst c;simp[h.size,g]
   ·simp[fC c,c]
  rw[i];by_cases c:t=d
  ·subst c;rw[ax rfl];rcases aJ.PZ an F t x with c|c
   ·rw[c];exact f
   ·rw[c];exact .aa _
  ·rw[ak c,aJ.PY an F x c];exact h.val t
def cK.forget(h:cK an bE β F a){c:aJ}(e:∀t,c.get an t=F.get an t∨c.get an t=.aa):cK an bE β c a:=
 ⟨fun t=>by rcases e t with d|d;rw[d];exact h.val t;rw[d];exact .aa _,h.size,h.defers⟩
def ZS(d:List Nat)(t:Nat):∀l:List (Nat×af),kM t (th d l)=kM t l∨kM t (th d l)=.aa:=by
 intro l
 induction l with
 |nil=>exact .inl rfl|cons p l c=>
  obtain⟨k,v⟩:=p;simp only[th];cases i:oI k d with
  |true=>
   simp only[kM];cases g:Nat.beq k t with
   |true=>exact .inl rfl|false=>exact c
  |false=>
   simp only[kM];cases g:Nat.beq k t with
   |true=>
    right;have e:k=t:=by simpa using g
    subst e;clear c
    induction l with
    |nil=>rfl|cons q l c=>
     obtain⟨f,v'⟩:=q;simp only[th];cases h:oI f d with
     |false=>exact c|true=>
      simp only[kM];cases j:Nat.beq f k with
      |true=>
       have e:f=k:=by simpa using j
       subst e;rw[i]at h;cases h
      |false=>exact c
   |false=>exact c
def cK.eD(h:cK an bE β F a)(c:List Nat):cK an bE β {F with tmps:=th c F.tmps} a:=by
 refine h.forget fun t=>?_;simp only[aJ.get];cases Nat.blt t an with
 |true=>exact .inl rfl|false=>exact ZS c t F.tmps
end
section
variable{P:Program}{G:Nat→Option (List af)}
def fV(P:Program)(G:Nat→Option (List af))(call:gd):Prop:=∀f args S v S',call f args S=some (v,S')→Ext S S'∧(S'.ok→∀β w vs,aK β args vs→aM G β S.H w→
 (∃fn,P.funcs[f]? =some fn∧(fn.name== "runtime.NumGoroutine")=false∧fn.body.isSome=true)∧
 j6 P f ⟨vs⟩ w fun c w'=>∃u R,c=.returned u∧aC R v u∧aM G R S'.H w'∧bJ β S.H w R S'.H w')
def oW(P:Program)(gx:Nat→String→Option FuncId):Prop:=∀t m f,gx t m=some f→∀v w,(method (P.types.size+Made.depth) t v m).aI P w=.ok (f,v) w
def P0{f:FuncId}{fn:Func}(d:P.funcs[f]? =some fn)(e:(fn.name== "runtime.NumGoroutine")=false)(g:fn.body.isSome=true)(args:Array Value)(w:World):
 (callFunc f args).aI P w=.ok (.enter f args) w:=by
 obtain⟨c,h⟩:=Option.isSome_iff_exists.1 g;have i:¬fn.name= "runtime.NumGoroutine" :=by simpa using e
 simp[callFunc,d,i,h]
variable{C:eJ}[lV C]
def ZT(ah:C.dA=G)(ab:fV C.P G call)(Y:oW C.P C.gx){β:aE}{w:World}{c:Call}(B:o.op=.call c)(ad:BV c.callee=false){ev:Operand→af}{ρ:Operand→Value}
 (h:uS C c call ev S=some (x,S')) (s:∀x,aC β (ev x) (ρ x)) (Z:aM G β S.H w):(S'.ok→S.ok)∧(S'.ok→(∃f args,(execOp ρ o).aI C.P w=.ok (.enter f args) w∧
  j6 C.P f args w fun p w'=>∃u R,p=.returned u∧aC R x u∧aM G R S'.H w'∧bJ β S.H w R S'.H w')∨(S'=S∧∃u,aC β x u∧(execOp ρ o).aI C.P w=.ok (.value u) w)):=by
 unfold uS at h;rw[ad]at h;simp only at h;split at h
 case h_2=>cases h
 rename_i f args d;have D:=Cw s c.args.toList;have p:c.args.map ρ=⟨c.args.toList.map ρ⟩:=by apply j3;simp
 split at h
 ·rename_i aj aa;simp only[aD,aO]at h;obtain⟨rfl,rfl⟩:=h;refine⟨id,fun ok=>.inr ⟨rfl,?_⟩⟩;unfold callee at d;split at d
  ·rename_i y i;split at d
   case h_2=>cases d
   rename_i j n k E;simp only[aD,aO]at d;obtain⟨rfl,rfl⟩:=d;have e:=s y;rw[E]at e;generalize l:ρ y=I at e;cases e;rename_i first captured g J K
   have z:aK β k (first++captured):=⟨J,K⟩;have L:aK β (k.take n) first:=by
    have:=z.take n;rw[←g,Wc]at this;rw[g]at this;exact this
   have M:aK β (k.drop n) captured:=by
    have:=z.drop n;rw[←g,List.drop_left]at this;rw[g]at this;exact this
   obtain⟨u,A,N⟩:=lV.ok _ _ _ aa β _ w ((L.append D).append M);refine⟨u,A,?_⟩;simp[execOp,B,resolve,i,l,Deferred.ofValue,invoke,p];simpa using N
  ·rename_i r m i;split at d
   case h_2=>cases d
   rename_i t v O;split at d
   case h_2=>cases d
   rename_i j Q;simp only[aD,aO]at d;obtain⟨rfl,rfl⟩:=d;have e:=s r;rw[O]at e;generalize l:ρ r=I at e;cases e;rename_i u A;obtain⟨x,ae,N⟩:=lV.ok _ _ _ aa β _ w (aK.cons A D);refine⟨x,ae,?_⟩;have ag:List.take c.args.size (List.map ρ c.args.toList)=List.map ρ c.args.toList:=qy (by simp);simp[execOp,B,resolve,i,l,invoke,p,callMethod,Y t m j Q,ag];simpa using N
  ·cases d
 obtain⟨h1,h2⟩:=ab _ _ _ _ _ h;refine⟨h1.ok,fun ok=>.inl ?_⟩;unfold callee at d;split at d
 ·rename_i y i;split at d
  case h_2=>cases d
  rename_i j n k E;simp only[aD,aO]at d;obtain⟨rfl,rfl⟩:=d;have e:=s y;rw[E]at e;generalize l:ρ y=I at e;cases e;rename_i first captured g J K
  have z:aK β k (first++captured):=⟨J,K⟩;have L:aK β (k.take n) first:=by
   have:=z.take n;rw[←g,Wc]at this;rw[g]at this;exact this
  have M:aK β (k.drop n) captured:=by
   have:=z.drop n;rw[←g,List.drop_left]at this;rw[g]at this;exact this
  obtain⟨⟨fn,T,U,V⟩,W⟩:=h2 ok β w _ ((L.append D).append M) Z;refine⟨j,⟨first++c.args.toList.map ρ++captured⟩,?_,W⟩;have X:((⟨first++c.args.toList.map ρ++captured⟩:Array Value))=(⟨first⟩++⟨c.args.toList.map ρ⟩)++⟨captured⟩:=by apply j3;simp
  rw[X];simp[execOp,B,resolve,i,l,Deferred.ofValue,invoke,p,P0 T U V]
 ·rename_i r m i;split at d
  case h_2=>cases d
  rename_i t v O;split at d
  case h_2=>cases d
  rename_i j Q;simp only[aD,aO]at d;obtain⟨rfl,rfl⟩:=d;have e:=s r;rw[O]at e;generalize l:ρ r=I at e;cases e;rename_i u A;obtain⟨⟨fn,T,U,V⟩,W⟩:=h2 ok β w _ (aK.cons A D) Z;refine⟨j,⟨u::c.args.toList.map ρ⟩,?_,W⟩;have X:(⟨u::c.args.toList.map ρ⟩:Array Value)=#[u]++⟨c.args.toList.map ρ⟩:=by apply j3;simp
  have ak:∀q:Array Value,(#[Value.iface t u]++q).extract 1 (#[Value.iface t u]++q).size=q:=by
   intro q;apply j3;simp
  rw[X];simp[execOp,B,resolve,i,l,invoke,p,callMethod,Y t m j Q,P0 T U V];exact qy (by simp)
 ·cases d
def Jr(y:C.dA=G){call:gd}(E:fV C.P G call)(I:oW C.P C.gx){β:aE}{w:World}{a:Act}{o:Oper}{ev:Operand→af}{x:af}{S S':ai}(h:dZ C call ev o.op S=some (x,S'))
 (s:∀x,aC β (ev x) (a.eval x)) (k:aM G β S.H w) {next:Act→World→Prop}:
 (S'.ok→S.ok)∧(S'.ok→(∀v w' R,aC R x v→aM G R S'.H w'→bJ β S.H w R S'.H w'→next (a.put o.dst v) w')→o.en C.P a w next):=by
 suffices z:∀d,aM G β S.H d→(S'.ok→S.ok)∧(S'.ok→(∀v w' R,aC R x v→aM G R S'.H w'→bJ β S.H d R S'.H w'→next (a.put o.dst v) w')→∃r w',(execOp a.eval o).aI C.P d=.ok r w'∧
  match r with
  |.value v=>lm d w'→ff d w'∧next (a.put o.dst v) w'|.skip=>lm d w'→ff d w'∧next (a.put o.dst undef) w'
  |.enter f args=>w'=d∧j6 C.P f args d fun
   |.returned v,J=>next (a.put o.dst v) J|_,_=>False
  |_=>False) by
  refine⟨(z w k).1,fun ok e d A=>(z d (k.rely A)).2 ok fun v w' R K L M=>e v w' R K L ((A.pX β S.H).trans M)⟩
 clear k w;intro w k;unfold dZ at h;split at h
 ·rename_i f N;obtain⟨h1,h2⟩:=Y7 y (ρ:=a.eval) (o:=o) N h s k;refine⟨h1,fun ok e=>?_⟩;obtain⟨r,v,w',l,m,p,q⟩:=h2 ok;refine⟨r,w',l,?_⟩;rcases m with rfl|⟨rfl,rfl⟩
  ·exact fun n=>let⟨R,g,i,j⟩:=q n;⟨p,e v w' R g i j⟩
  ·exact fun n=>let⟨R,g,i,j⟩:=q n;⟨p,e _ w' R g i j⟩
 ·rename_i c t;have B:o.op=.call c:=by
   cases aQ:o.op<;>rw[aQ]at t<;>simp only[nt,reduceCtorEq,It.call.injEq]at t;rw[t]
  cases D:BV c.callee with
  |true=>
   unfold uS at h;rw[D]at h;obtain⟨h1,h2⟩:=Y8 (ρ:=a.eval) B h s k;refine⟨h1,fun ok e=>?_⟩;obtain⟨r,v,w',l,m,p,q⟩:=h2 ok;refine⟨r,w',l,?_⟩;rcases m with rfl|⟨rfl,rfl⟩
   ·exact fun n=>let⟨R,g,i,j⟩:=q n;⟨p,e v w' R g i j⟩
   ·exact fun n=>let⟨R,g,i,j⟩:=q n;⟨p,e _ w' R g i j⟩
  |false=>
   obtain⟨h1,h2⟩:=ZT y E I B D (ρ:=a.eval) h s k;refine⟨h1,fun ok e=>?_⟩;rcases h2 ok with⟨f,args,l,m⟩|⟨rfl,u,O,l⟩
   ·refine⟨_,_,l,rfl,m.mono ?_⟩;rintro Q w' ⟨u,R,rfl,g,i,j⟩;exact e u w' R g i j
   ·exact⟨_,_,l,fun _=>⟨ff.refl _,e u _ β O k (bJ.refl _ _ _)⟩⟩
def aC.P1{β:aE}(h:aC β (.obj .bA []) v):v=.tuple #[]:=by
 cases h with
 |bA d vs c _=>
  cases vs with
  |nil=>rfl|cons _ _=>simp at c
def aC.P2(β:aE):aC β (.obj .bA []) Go.undef:=.bA [] [] rfl (fun i x v h _=>by simp at h)
def P3{an bE:Nat}{β:aE}{F:aJ}{a:Act}(s:cK an bE β F a)(h:mI ops.toList (F.ev an) o.guard S=some (b,S')):
 Pure S S'∧(S'.ok→Region.wanted o (yielded ops a.tmps)=b):=by
 unfold mI at h;split at h
 ·rename_i g;simp only[aD,aO]at h;obtain⟨rfl,rfl⟩:=h;exact⟨Pure.refl _,fun _=>by simp[Region.wanted,g]⟩
 ·rename_i j A g;rw[cg]at h;cases i:ops.toList[j]? with
  |none=>simp[i]at h|some u=>
   simp only[i]at h;split at h
   ·cases h
   rename_i d l;split at h
   case h_3=>cases h
   case h_2=>
    rename_i m;simp only[aD,aO]at h;obtain⟨rfl,rfl⟩:=h;refine⟨Pure.refl _,fun _=>?_⟩;have f:=s.val d;have n:F.get an d=.obj .bA []:=m;rw[n]at f;have e:=f.P1;have k:ops[j]? =some u:=by simpa using i
    have p:yielded ops a.tmps j=none:=by
     rcases cu d a.tmps.size with c|c
     ·have q:a.tmps[d]? =some (.tuple #[]):=by
       simp only[gX,dP c,ij]at e;rw[dP c,e]
      simp[yielded,k,l,q]
     ·simp[yielded,k,l,Eg c]
    simp[Region.wanted,g,p]
   rename_i r m;split at h
   case h_2=>cases h
   rename_i t D w;simp only[aD,aO]at h;obtain⟨rfl,rfl⟩:=h;obtain⟨y,z⟩:=B.oO w;refine⟨y,fun ok=>?_⟩;have f:=s.val d;have n:F.get an d=.atom (.bool r):=m;rw[n]at f;have e:=f.tC;have c:d<a.tmps.size:=by
    rcases cu d a.tmps.size with h|h
    ·exact h
    ·simp[gX,Eg h,undef]at e
   have q:a.tmps[d]? =some (.bool r.v):=by
    simp only[gX,dP c,ij]at e;rw[dP c,e]
   have k:ops[j]? =some u:=by simpa using i
   have p:yielded ops a.tmps j=some r.v:=by
    simp[yielded,k,l,q]
   simp[Region.wanted,g,p,z ok]
def Js(bE:Nat)(ops:List Oper):Prop:=∀o∈ops,∀d,o.dst=some d→d<bE
def CC{ops:List Oper}{ev:Operand→af}{g:Option (Nat×Bool)}(h:mI ops ev g S=some (b,S')):Pure S S':=by
 unfold mI at h
 repeat'(split at h)
 all_goals(try(cases h;done))
 ·simp only[aD,aO]at h;obtain⟨_,rfl⟩:=h;exact Pure.refl _
 ·simp only[aD,aO]at h;obtain⟨_,rfl⟩:=h;exact(B.oO ‹B.test _ _=some _›).1
 ·simp only[aD,aO]at h;obtain⟨_,rfl⟩:=h;exact Pure.refl _
def Jt(f:xK call){an:Nat}{ops:List Oper}:∀(r:List Oper) (F c:aJ) (S S':ai),tj C call an ops r F S=some (c,S')→Ext S S':=by
 intro r
 induction r with
 |nil=>
  intro F c S S' h;simp only[tj,aD,aO]at h;obtain⟨_,rfl⟩:=h;exact Ext.refl _
 |cons o r e=>
  intro F c S S' h;simp only[tj]at h;split at h
  ·cases h
  ·rename_i g d;exact(CC d).ext.trans (e _ _ _ _ h)
  ·rename_i g d;split at h
   ·cases h
   rename_i x i aQ;exact((CC d).ext.trans (Cz f aQ)).trans (e _ _ _ _ h)
def fV.ext(h:fV C.P G call):xK call:=fun f args S v S' c=>(h f args S v S' c).1
def ZU(B:C.dA=G)(m:fV C.P G call)(D:oW C.P C.gx){an bE:Nat}(E:Js bE ops.toList){Q:Exit→Act→World→Prop}:
 ∀(r:List Oper) (i:Nat) (F g:aJ) (S S':ai) (β:aE) (a:Act) (w:World),ops.toList.drop i=r→tj C call an ops.toList r F S=some (g,S')→S'.ok→cK an bE β F a→aM G β S.H w→
  (∀d w' R,cK an bE R g d→aM G R S'.H w'→bJ β S.H w R S'.H w'→Q .normal d w')→lP C.P ops Q (List.range' i r.length) a w:=by
 intro r
 induction r with
 |nil=>
  intro i F g S S' β a w j h ok c k l;simp only[tj,aD,aO]at h;obtain⟨rfl,rfl⟩:=h;exact l a w β c k (bJ.refl ..)
 |cons o r t=>
  intro i F g S S' β a w j h ok c k l;have I:ops[i]? =some o:=by
   have:(ops.toList.drop i)[0]? =some o:=by rw[j];rfl
   simpa using this
  have u:ops.toList.drop (i+1)=r:=by
   have:=iX (List.drop 1) j;rw[HZ]at this;simpa[Bi]using this
  have y:∀x,o.dst=some x→x<bE:=fun x J=>E o (List.mem_of_mem_drop (by rw[j];exact lK ..)) x J;simp only[tj]at h;rw[iW,List.range'_succ,lP,I];simp only;split at h
  ·cases h
  ·rename_i z n;obtain⟨f,p⟩:=P3 c n;have K:=(Jt m.ext r _ _ _ _ h).ok ok;rw[p K];simp only[nc,ee];refine t (i+1) _ _ _ _ β _ w u h ok (c.put y (.P2 _)) (by rw[f.H];exact k) ?_;intro d w' R q s e;rw[f.H]at e;exact l d w' R q s e
  ·rename_i z n;obtain⟨f,p⟩:=P3 c n;split at h
   ·cases h
   rename_i x X aQ;have A:=(Jt m.ext r _ _ _ _ h).ok ok;have L:aM G β z.H w:=by rw[f.H];exact k
   obtain⟨M,N⟩:=Jr B m D (o:=o) (a:=a) (next:=lP C.P ops Q (List.range' (i+1) r.length)) aQ (fun x=>c.ev x) L;rw[p (M A)];simp only[g6];refine N A fun v w' R q s e=>?_;refine t (i+1) _ _ _ _ R _ w' u h ok ((c.mono e.le).put y q) s ?_;intro d O T U V W;rw[f.H]at e;exact l d O T U V (e.trans W)
end
end
section
variable [aR][aG]
open Region
variable{Q:Array Oper}{P:Program}{R:Nat}
def Closed(Q:Array Oper)(D:Nat→Prop):Prop:=∀i a,Q[i]? =some a→D i→∀b∈a.after,binds .any b=true→D b.on
def eY(Q:Array Oper)(i k:Nat):Prop:=((before Q).getD i 0).testBit k=true
def P4{d:Type}(f:d→Option Nat)(k:Nat):∀(l:List d) (a:Nat),(l.foldl (fun a b=>match f b with|some m=>a|||m|none=>a) a).testBit k=true→a.testBit k=true∨∃b∈l,∃m,f b=some m∧m.testBit k=true
 |[],a,h=>.inl h|b::l,a,h=>by
  simp only[NT]at h;rcases P4 f k l _ h with h|⟨e,g,h⟩
  ·cases c:f b with
   |none=>simp only[c]at h;exact .inl h|some m=>
    simp only[c,Nat.testBit_or,pN]at h;rcases h with h|h
    ·exact .inl h
    ·exact .inr ⟨b,lK ..,m,c,h⟩
  ·exact .inr ⟨e,ng _ g,h⟩
def FF{D:Nat→Prop}(y:Closed Q D):∀(i k:Nat) (c:Oper),Q[i]? =some c→eY Q i k→(∀a∈c.after,binds .any a=true→D a.on)→D k:=by
 have z:∀(r:List Oper) (b:Array Nat),Q.toList.drop b.size=r→b.size≤Q.size→
  (∀i,i<b.size→∀k c,Q[i]? =some c→(b.getD i 0).testBit k=true→(∀a∈c.after,binds .any a=true→D a.on)→D k)→
  ∀i k c,Q[i]? =some c→((r.foldl (fun b c=>b.push (c.after.foldl (fun e a=>if binds .any a then e|||2^a.on|||b.getD a.on 0 else e) 0)) b).getD i 0).testBit k=true→
   (∀a∈c.after,binds .any a=true→D a.on)→D k:=by
  intro r
  induction r with
  |nil=>
   intro b l A bU i k c n d g;simp only[List.foldl_nil]at d;rcases cu i b.size with h|h
   ·exact bU i h k c n d g
   ·simp[gX,Eg h]at d
  |cons c r B=>
   intro b l A bU i k C n d g;have N:b.size<Q.size:=by
    rcases cu b.size Q.size with h|h
    ·exact h
    ·rw[anX (by simpa using h)]at l;cases l
   have E:Q[b.size]? =some c:=by
    have:(Q.toList.drop b.size)[0]? =some c:=by rw[l];rfl
    simpa using this
   simp only[NT]at d;refine B _ (by rw[Wl,←HZ,l];rfl) (by rw[Wl];omega) ?_ i k C n d g;intro o F t H p q u;rw[Wl]at F;rcases cu o b.size with h|h
   ·have a:∀v,(b.push v).getD o 0=b.getD o 0:=by
     intro v;simp[gX,Bd,Nat.ne_of_lt h]
    rw[a]at q;exact bU o h t H p q u
   ·have I:o=b.size:=by omega
    subst I;rw[E]at p;injection p with p;subst p;have a:∀v,(b.push v).getD b.size 0=v:=by
     intro v;simp[gX]
    rw[a,←Wd]at q;have J:(fun(e:Nat) (a:Edge)=>if binds .any a then e|||2^a.on|||b.getD a.on 0 else e)=(fun e a=>match(if binds .any a then some (2^a.on|||b.getD a.on 0)else none:Option Nat)with|some m=>e|||m|none=>e):=by
     funext e a;by_cases h:binds .any a=true
     ·simp[h,Nat.or_assoc]
     ·simp[h]
    rw[J]at q;rcases P4 _ t _ _ q with K|⟨j,L,m,s,f⟩
    ·simp at K
    ·split at s
     case isFalse=>cases s
     rename_i M;injection s with s;subst s;have w:=u j (H6.2 L) M;rw[Nat.testBit_or,pN]at f;rcases f with f|f
     ·rw[Nat.testBit_two_pow]at f;have:j.on=t:=by simpa using f
      rw[←this];exact w
     ·rcases cu j.on b.size with h2|h2
      ·have x:j.on<Q.size:=by omega
       exact bU j.on h2 t Q[j.on] (dP x) f (fun a g d=>y j.on _ (dP x) w a g d)
      ·simp[gX,Eg h2]at f
 intro i k c n d g;refine z Q.toList #[] (by simp) (by simp) (fun i h=>by simp at h) i k c n ?_ g;unfold eY before at d;rw[←Wd]at d;exact d
def FG(Q:Array Oper)(i k:Nat):(BZ Q i).testBit k=true↔eY Q i k:=by
 unfold BZ eY;rw[CheckFast.beforeF_eq]
def CE(P:Program)(a:Op):Bool:=
 match a with
 |.load .. =>true|.slice t _ _ _ _=>BW P t|.convert b d _=>Nat.beq b d|_=>false
def FH(d:Option Nat)(l:List Nat):Bool:=
 match d with
 |some d=>oI d l|none=>false
def P5(d a:Option Nat):Bool:=
 match d with
 |some d=>
  match a with
  |some a=>Nat.beq d a|none=>false
 |none=>false
def p0(P:Program)(dyn:Bool)(a:Oper)(c:List Nat)(b:Oper)(d:List Nat):Bool:=
 !(FH a.dst d)&& !(FH b.dst c)&& !(P5 a.dst b.dst)&&
 !(kN a.op&&kN b.op)&& !(gf a.op&&(kN b.op||CE P b.op))&&
 (dyn||(!(CE P a.op&&kN b.op)&& !(kN a.op&&CE P b.op)))
def CF(P:Program)(dyn:Bool)(b:Oper)(c:List Nat)(d:Nat):List (Oper×List Nat)→Nat→Bool
 |[],_=>true|(a,e)::r,k=>
  match d.testBit k with
  |true=>CF P dyn b c d r (k+1)|false=>
   match p0 P dyn a e b c with
   |true=>CF P dyn b c d r (k+1)|false=>false
def CG(P:Program)(dyn:Bool):List (Oper×List Nat)→List Nat→List (Oper×List Nat)→Bool
 |[],_,_=>true|_::_,[],_=>false|(b,a)::r,d::e,c=>
  match CF P dyn b a d c 0 with
  |true=>CG P dyn r e (c++[(b,a)])|false=>false
def FI:List Oper→Nat→Bool
 |[],_=>true|b::r,i=>
  match b.after.toList.all fun a=> !binds .any a||Nat.blt a.on i with
  |true=>FI r (i+1)|false=>false
def CH(R:Nat):List Oper→Bool
 |[]=>true|a::r=>
  match a.dst with
  |some d=>
   match Nat.blt d R with
   |true=>CH R r|false=>false
  |none=>CH R r
def xL(Q:Array Oper):List Oper→List (Oper×List Nat)|[]=>[]|a::r=>(a,Oper.looksAt Q a)::xL Q r
def tI(P:Program)(R:Nat)(dyn:Bool)(Q:Array Oper)(a:Bool):Bool:=
 match CH R Q.toList with
 |false=>false|true=>
  match a with
  |false=>true|true=>
   match FI Q.toList 0 with
   |false=>false|true=>CG P dyn (xL Q Q.toList) (CheckFast.beforeF Q).toList []
def Ju{R:Nat}:∀{l:List Oper},CH R l=true→Js R l
 |[],_=>fun e i=>by cases i
 |e::r,h=>by
  simp only[CH]at h;intro f b d c;rcases jJ.1 b with rfl|b
  ·rw[c]at h;simp only at h;cases a:Nat.blt d R with
   |false=>simp[a]at h|true=>simpa using a
  ·cases g:e.dst with
   |none=>rw[g]at h;exact Ju h f b d c|some j=>
    rw[g]at h;simp only at h;cases a:Nat.blt j R with
    |false=>simp[a]at h|true=>simp only[a]at h;exact Ju h f b d c
def P6:∀{l:List Oper} {i:Nat},FI l i=true→∀(j:Nat) b,l[j]? =some b→∀a∈b.after,binds .any a=true→a.on<i+j
 |[],_,_=>fun j b f=>by simp at f|b::r,i,h=>by
  simp only[FI]at h;split at h
  ·rename_i g;intro j k c a d e;cases j with
   |zero=>
    simp at c;subst c;have:=w5.1 g a (Wj.2 d);simp[e]at this;omega
   |succ j=>
    have:=P6 h j k (by simpa using c) a d e;omega
  ·cases h
def Jv{P:Program}{dyn:Bool}{b:Oper}{d:List Nat}{e:Nat}:∀{l:List (Oper×List Nat)} {i:Nat},CF P dyn b d e l i=true→
 ∀(k:Nat) p,l[k]? =some p→e.testBit (i+k)=true∨p0 P dyn p.1 p.2 b d=true
 |[],_,_=>fun k p c=>by simp at c|(a,g)::r,i,h=>by
  intro k p c;simp only[CF]at h;cases k with
  |zero=>
   simp at c;subst c;split at h
   ·exact .inl (by assumption)
   ·split at h
    ·exact .inr (by assumption)
    ·cases h
  |succ k=>
   have f:i+(k+1)=(i+1)+k:=by omega
   rw[f];split at h
   ·exact Jv h k p (by simpa using c)
   ·split at h
    ·exact Jv h k p (by simpa using c)
    ·cases h
def P7{P:Program}{dyn:Bool}:∀{l:List (Oper×List Nat)} {d:List Nat} {e:List (Oper×List Nat)},CG P dyn l d e=true→
 ∀(j:Nat) p,l[j]? =some p→∃c,d[j]? =some c∧∀(k:Nat) q,(e++l.take j)[k]? =some q→c.testBit k=true∨p0 P dyn q.1 q.2 p.1 p.2=true
 |[],_,_,_=>fun j p a=>by simp at a|_::_,[],_,h=>by simp[CG]at h|(b,m)::r,c::d,e,h=>by
  intro j p a;simp only[CG]at h;split at h
  case h_2=>cases h
  rename_i g;cases j with
  |zero=>
   simp at a;subst a;refine⟨c,rfl,fun k q f=>?_⟩;have:=Jv g k q (by simpa using f);simpa using this
  |succ j=>
   obtain⟨i,h1,h2⟩:=P7 h j p (by simpa using a);refine⟨i,by simpa using h1,fun k q f=>h2 k q ?_⟩;simpa using f
def Jw(Q:Array Oper):∀(l:List Oper) (i:Nat),(xL Q l)[i]? =(l[i]?).map fun a=>(a,Oper.looksAt Q a)|[],i=>by simp[xL]|a::r,0=>by simp[xL]|a::r,i+1=>by simp[xL,Jw Q r i]
def vw{dyn:Bool}(h:tI P R dyn Q true=true){k j:Nat}{a b:Oper}(c:k<j)(d:Q[k]? =some a)(e:Q[j]? =some b):
 eY Q j k∨p0 P dyn a (Oper.looksAt Q a) b (Oper.looksAt Q b)=true:=by
 unfold tI at h;split at h
 ·cases h
 simp only at h;split at h
 ·cases h
 have f:(xL Q Q.toList)[j]? =some (b,Oper.looksAt Q b):=by rw[Jw];simp[e]
 obtain⟨g,h1,h2⟩:=P7 h j _ f;have:=h2 k (a,Oper.looksAt Q a) (by
  rw[jK,lM,ax c,Jw];simp[d])
 refine this.imp (fun i=>?_) id;have l:(before Q).getD j 0=g:=by
  rw[←CheckFast.beforeF_eq];simp only[HY]at h1;simp[gX,h1]
 unfold eY;rw[l];exact i
def P8{dyn:Bool}{a:Bool}(h:tI P R dyn Q a=true):Js R Q.toList:=by
 unfold tI at h;split at h
 ·cases h
 ·exact Ju (by assumption)
def ZV{dyn:Bool}(h:tI P R dyn Q true=true):∀(j:Nat) a,Q[j]? =some a→∀b∈a.after,binds .any b=true→b.on<j:=by
 unfold tI at h;split at h
 ·cases h
 simp only at h;split at h
 ·cases h
 rename_i c;intro j a d b e f;have:=P6 c j a (by simpa using d) b e f;omega
end
section
variable [aR][aG]
open Region
section
open Classical
def last(D cW:Nat→Prop):Nat→Nat|0=>0|n+1=>if D n∧cW n then n+1 else last D cW n
variable{V:Type}{x:Nat→V}{D cW:Nat→Prop}
def FJ{i n:Nat}(d:∀k,k<n→¬cW k→x (k+1)=x k)(e:i≤n)(h:∀k,k<n→cW k→(D k↔k<i)):x (last D cW n)=x i:=by
 have f:∀m,m≤n→x (last D cW m)=x (min m i):=by
  intro m
  induction m with
  |zero=>intro _;simp[last]|succ m g=>
   intro j;simp only[last];split
   ·rename_i a;have:=(h m (by omega) a.2).1 a.1;rw[Be (by omega)]
   ·rename_i a;rw[g (by omega)];rcases cu m i with b|b
    ·rw[Be (by omega),Be (by omega)];refine(d m (by omega) fun c=>a ⟨(h m (by omega) c).2 b,c⟩).symm
    ·rw[HR (by omega),HR (by omega)]
 rw[f n (aV _),HR e]
def P9{i n:Nat}(hi:i<n)(b:cW i)(h:∀k,i<k→k<n→cW k→¬D k):last (fun k=>D k∨k=i) cW n=i+1:=by
 have c:∀m,i<m→m≤n→last (fun k=>D k∨k=i) cW m=i+1:=by
  intro m
  induction m with
  |zero=>intro h;omega|succ m d=>
   intro h1 h2;simp only[last];rcases cu i m with a|a
   ·rw[ak,d a (by omega)];rintro⟨h3,h4⟩;rcases h3 with h3|h3
    ·exact h m a (by omega) h4 h3
    ·omega
   ·have:m=i:=by omega
    subst this;rw[ax ⟨.inr rfl,b⟩]
 exact c n hi (aV _)
def Qa{i n:Nat}(a:¬cW i):last (fun k=>D k∨k=i) cW n=last D cW n:=by
 induction n with
 |zero=>rfl|succ n b=>
  simp only[last,b];by_cases h:D n∧cW n
  ·rw[ax h,ax ⟨.inl h.1,h.2⟩]
  ·rw[ak h,ak];rintro⟨h1|h1,h2⟩
   ·exact h ⟨h1,h2⟩
   ·subst h1;exact a h2
end
section
variable{G:Nat→Option (List af)}{β T:aE}{w w':World}{Q R U H2:List ah}
def aM.view(a:aM G β Q w)(l:R.length=Q.length)(g:∀(b:Nat) k,R[b]? =some k→k.mode.alive→Q[b]? =some k):aM G β R w:=
 ⟨fun b k c d=>a.blk b k (g b k c d) d,fun b i k j e m n c o f d=>a.dL b i k j e m n (g b k c (eo f)) (g i j o d) f d,
  fun b e h=>by rw[l];exact a.fl b e h,a.dA,fun b k e c f=>a.apart b k e (g b k c (eo f)) f⟩
def aM.ZW(z:aM G β Q w)(N:R.length=Q.length)(J:∀(b:Nat) k,R[b]? =some k→k.mode.alive→Q[b]? =some k)
 (E:aM G T U w') (i:bJ β R w T U w') (F:Nat→Prop) (S:H2.length=U.length)
 (cB:∀b,F b→H2[b]? =Q[b]? ∧(∀e,R[b]? =some e→e.mode=.bn)∧∀k,Q[b]? =some k→k.mode.alive→k.mode=.own∧∃d,β b=some d) (aa:∀b,¬F b→H2[b]? =U[b]?)
 (ab:∀(b:Nat) k,U[b]? =some k→k.mode=.ro→R[b]? =some k):aM G T H2 w'∧bJ β Q w T H2 w':=by
 have ao:∀b k,Q[b]? =some k→b<R.length:=by
  intro b k a;rw[N];rcases cu b Q.length with h|h
  ·exact h
  ·rw[dz h]at a;cases a
 have ad:∀b k,R[b]? =some k→b<R.length:=by
  intro b k a;rcases cu b R.length with h|h
  ·exact h
  ·rw[dz h]at a;cases a
 have W:∀b k d,Q[b]? =some k→k.mode=.own→β b=some d→(∀e,R[b]? =some e→e.mode=.bn)→¬Own β R d.c:=by
  rintro b k d a g f y ⟨cr,A,p,K,q,r,H⟩;have t:b≠cr:=by
   intro B;subst B;have:=y A K;rw[q]at this;cases this
  exact z.dL b cr k A d p t a (J cr A K (eo q)) g (eo q) f r H.symm
 have X:∀b k d,Q[b]? =some k→k.mode=.own→β b=some d→d.c<w.heap.size:=fun b k d a g f=>z.lt a (eo g) f;have u:∀b k,H2[b]? =some k→k.mode.alive→(F b∧Q[b]? =some k∧k.mode=.own∧(∃d,β b=some d)∧∀e,R[b]? =some e→e.mode=.bn)∨(¬F b∧U[b]? =some k):=by
  intro b k a l;by_cases h:F b
  ·obtain⟨ae,ag,ai⟩:=cB b h;rw[ae]at a;obtain⟨aj,ak⟩:=ai k a l;exact .inl ⟨h,a,aj,ak,ag⟩
  ·rw[aa b h]at a;exact .inr ⟨h,a⟩
 refine⟨⟨?_,?_,?_,E.dA,?_⟩,⟨i.le,by rw[S,←N];exact i.len,i.os,i.tape,i.output,i.size,?_,?_,fun b u=>i.old b (by rw[N];exact u)⟩⟩
 ·intro b k a l;rcases u b k a l with⟨_,a,g,⟨d,f⟩,y⟩|⟨_,a⟩
  ·rcases z.blk b k a l with⟨o,m,al⟩|⟨_,L⟩
   ·rw[f]at m;injection m with B;subst B;exact .inl ⟨d,i.le b d f,al.mono i.le i.size (i.kept _ (X b k d a g f) (W b k d a g f y))⟩
   ·rw[f]at L;cases L
  ·exact E.blk b k a l
 ·
   have Y:∀b j k e d o,b≠j→Q[b]? =some k→k.mode=.own→β b=some d→(∀e,R[b]? =some e→e.mode=.bn)→U[j]? =some e→e.mode.alive→T j=some o→d.c≠o.c:=by
    intro b j k e d o t a g f y n l m B;cases O:e.mode with
    |own=>
     exact W b k d a g f y (i.own _ (X b k d a g f) ⟨j,e,o,n,O,m,B.symm⟩)
    |ro=>
     have h1:=ab j e n O;have h2:=J j e h1 l;rw[i.old j (ad j e h1)]at m;exact z.dL b j k e d o t a h2 g l f m B
    |bn=>exact l O
   intro b j k e d o t a n g l f m;rcases u b k a (eo g)with⟨_,a,am,⟨v,s⟩,y⟩|⟨_,a⟩
   ·have I:v=d:=by rw[i.le b v s]at f;injection f
    subst I;rcases u j e n l with⟨_,n,q,⟨p,r⟩,Z⟩|⟨_,n⟩
    ·have P:p=o:=by rw[i.le j p r]at m;injection m
     subst P;exact z.dL b j k e _ _ t a n g l s r
    ·exact Y b j k e _ _ t a am s y n l m
   ·rcases u j e n l with⟨_,n,q,⟨p,r⟩,Z⟩|⟨_,n⟩
    ·have P:p=o:=by rw[i.le j p r]at m;injection m
     subst P;exact(Y j b e k _ _ (fC t) n q r Z a (eo g) f).symm
    ·exact E.dL b j k e d o t a n g l f m
 ·intro b d h;rw[S];exact E.fl b d h
 ·intro b k d a g f;rcases u b k a (eo g)with⟨_,a,_,⟨v,s⟩,_⟩|⟨_,a⟩
  ·have I:v=d:=by rw[i.le b v s]at f;injection f
   subst I;exact z.apart b k _ a g s
  ·exact E.apart b k d a g f
 ·intro c H L;refine i.kept c H fun⟨b,k,d,a,g,f,M⟩=>L ⟨b,k,d,J b k a (eo g),g,f,M⟩
 ·intro c H ⟨b,k,d,a,g,f,M⟩;rcases u b k a (eo g)with⟨_,a,_,⟨v,s⟩,_⟩|⟨_,a⟩
  ·have I:v=d:=by rw[i.le b v s]at f;injection f
   subst I;exact⟨b,k,_,a,g,s,M⟩
  ·obtain⟨cr,A,p,K,q,r,an⟩:=i.own c H ⟨b,k,d,a,g,f,M⟩;exact⟨cr,A,p,J cr A K (eo q),q,r,an⟩
def aM.newAt(m:aM G β Q w){b:Nat}{O:ah}(P:Q[b]? =some O)(S:β b=none)(d:Data)(vs:List Value)(t:TypeId)(W:d.len≤vs.length)(X:aK β d.list (vs.take d.len))(Y:fI d w.heap.size):
 aM G (β.put b ⟨w.heap.size,0,vs.length⟩) (Q.set b ⟨d,.own⟩) (w.alloc (.cells ⟨vs⟩ t))∧
 (∀c,c<w.heap.size→(w.alloc (.cells ⟨vs⟩ t)).heap[c]? =w.heap[c]?)∧(∀c,c<w.heap.size→Own (β.put b ⟨w.heap.size,0,vs.length⟩) (Q.set b ⟨d,.own⟩) c→Own β Q c):=by
 have Z:b<Q.length:=by
  rcases cu b Q.length with h|h
  ·exact h
  ·simp[dz h]at P
 have r:=aE.Fj (L:=⟨w.heap.size,0,vs.length⟩) S;have hold:∀c,c<w.heap.size→(w.alloc (.cells ⟨vs⟩ t)).heap[c]? =w.heap[c]? :=fun c E=>RowKit.Below.heap_alloc w _ c E;have aa:(w.alloc (.cells ⟨vs⟩ t)).heap[w.heap.size]? =some (.cells ⟨vs⟩ t (0,0)):=by
  show(w.heap.push _)[w.heap.size]? =_;simp
 have al:(w.alloc (.cells ⟨vs⟩ t)).heap.size=w.heap.size+1:=by
  show(w.heap.push _).size=_;simp
 have n:∀(x:Nat) k,(Q.set b ⟨d,.own⟩)[x]? =some k→(x≠b∧Q[x]? =some k)∨(x=b∧k=⟨d,.own⟩):=by
  intro x k e;by_cases j:x=b
  ·subst j;rw[pL Z]at e;injection e with e;exact .inr ⟨rfl,e.symm⟩
  ·rw[mw (fC j)]at e;exact .inl ⟨j,e⟩
 refine⟨⟨?_,?_,?_,?_,?_⟩,hold,?_⟩
 ·intro x k e q;rcases n x k e with⟨h,e⟩|⟨rfl,rfl⟩
  ·rcases m.blk x k e q with⟨L,f,F⟩|⟨h2,h3⟩
   ·exact .inl ⟨L,r x L f,F.mono r (by omega) (bL.of (hold _ (F.lt q)))⟩
   ·exact .inr ⟨h2,by rw[aE.g5 h];exact h3⟩
  ·exact .inl ⟨_,aE.gq ..,rfl,Y,vs,t,(0,0),aa,.inl rfl,rfl,W,X.mono r⟩
 ·intro x s k u L ab H e I o q f p;rcases n x k e with⟨h,J⟩|⟨K,am⟩
  ·rw[aE.g5 h]at f;rcases n s u I with⟨y,z⟩|⟨A,ad⟩
   ·rw[aE.g5 y]at p;exact m.dL x s k u L ab H J z o q f p
   ·rw[A,aE.gq]at p;injection p with j;subst j;have:=m.lt J (eo o) f;simp only;omega
  ·rw[K,aE.gq]at f;injection f with j;subst j;rcases n s u I with⟨y,z⟩|⟨A,ad⟩
   ·rw[aE.g5 y]at p;have:=m.lt z q p;simp only;omega
   ·exact absurd (K.trans A.symm) H
 ·intro x L f;rw[lJ];by_cases j:x=b
  ·omega
  ·rw[aE.g5 j]at f;exact m.fl x L f
 ·intro g l B;obtain⟨h1,h2⟩:=m.dA g l B;refine⟨by omega,fun i x ae=>?_⟩;obtain⟨v,M,ag,ai⟩:=h2 i x ae;obtain⟨aj,ak⟩:=r6 g;exact⟨v,by rw[ak]at M⊢;rw[World.cell?_of_block (w:=w) (a:=at' (gZ g) (aj+i)) (hold _ h1)];exact M,ag,ai⟩
 ·intro x k L e o f;rcases n x k e with⟨h,e⟩|⟨rfl,rfl⟩
  ·rw[aE.g5 h]at f;exact m.apart x k L e o f
  ·rw[aE.gq]at f;injection f with j;subst j;intro g l B;have:=(m.dA _ l B).1;simp only;omega
 ·intro c E ⟨x,k,L,e,o,f,N⟩;rcases n x k e with⟨h,e⟩|⟨rfl,rfl⟩
  ·rw[aE.g5 h]at f;exact⟨x,k,L,e,o,f,N⟩
  ·rw[aE.gq]at f;injection f with j;subst j;simp only at N;omega
end
section
variable{C:eJ}{β:aE}{w:World}
def ZX{b:Oper}{ev:Operand→af}{u:Operand→Value}{bF:Nat}{x:af}{S g:ai}(h:tn C ev b.op bF S=some (x,g))(A:∀x,aC β (ev x) (u x)):
 ∃d f,Pure S f∧g.H=fc ⟨d,.own⟩ bF S.H∧g.cond=f.cond∧g.low=S.low∧g.dec=f.dec∧
  (f.ok→∃(vs:List Value) (t:TypeId) (v:World→Value),d.full∧aK β d.list vs∧(∀w:World,(execOp u b).aI C.P w=.ok (.value (v w)) (w.alloc (.cells ⟨vs⟩ t)))∧
   ∀(w:World) (T:aE),T bF=some ⟨w.heap.size,0,vs.length⟩→aC T x (v w)):=by
 unfold tn at h;split at h
 ·rename_i j a;split at h
  case h_2=>cases h
  rename_i z X;simp only[aD,aO]at h;obtain⟨rfl,rfl⟩:=h;obtain⟨i,Y,hi,Z,aa,K,an⟩:=tG X β;refine⟨.gen z,S,Pure.refl _,rfl,rfl,rfl,rfl,fun _=>⟨Y.cells.toList,j,fun w=>.pointer (some (at' w.heap.size 0)),lU _,?_,fun w=>?_,fun w T o=>?_⟩⟩
  ·exact aa
  ·obtain⟨L,M,N,O,after,guard⟩:=b;simp only at a;subst a;simp[execOp,Instr.alloc,zeroValue,typeInfo,hi,Z,newVar,newRow,at']
  ·exact .ptr _ (.c 0) _ o
 ·rename_i t l c a;split at h
  case h_2=>cases h
  rename_i ab f B;split at h
  case h_2=>cases h
  rename_i ad ae n ag k q;simp only[aD,aO]at h;obtain⟨rfl,rfl⟩:=h;obtain⟨E,d,ao,y,F,rfl,s,aj⟩:=Pt B (A l) (A c);have ak:E.H=[]:=F.H;simp only[af.sl,af.ref.injEq,Ref.sl.injEq]at s;obtain⟨_,rfl,rfl,rfl⟩:=s;have I:k=⟨d,.own⟩:=by
   simp only[ai.new,ak,jK,N6]at q;exact q.1.symm
  subst I;refine⟨d,{S with dec:=E.dec,cond:=E.cond},⟨rfl,rfl,fun b=>F.ok b⟩,rfl,rfl,F.low,rfl,fun ok=>?_⟩;obtain⟨vs,j,al,h1,h2,h3,h4⟩:=aj ok;refine⟨vs,j,fun w=>.slice (some (at' w.heap.size 0)) n.v y.v,al,h1 β,fun w=>?_,fun w T o=>?_⟩
  ·obtain⟨L,M,N,O,after,guard⟩:=b;simp only at a;subst a;simp only[execOp];simp[h2 w]
  ·exact .sl _ (.c 0) n (some y) (some (at' w.heap.size 0)) y.v h3 (fun C e=>by injection e with e;subst e;rfl)
    (.inr ⟨_,o,rfl,by show(0:Nat)+y.v≤vs.length;omega⟩)
 ·rename_i t n J a;split at h
  case h_2=>cases h
  rename_i ab f B;split at h
  case h_2=>cases h
  rename_i ad ae m ag k q;simp only[aD,aO]at h;obtain⟨rfl,rfl⟩:=h;obtain⟨r,W,j,rfl,s,am,ap,bf⟩:=PE (P:=C.P) B (FC A J.toList);simp only[af.ref.injEq,Ref.sl.injEq]at s;obtain⟨_,rfl,rfl,rfl⟩:=s;have I:k=⟨.gen r,.own⟩:=by
   simp only[ai.new,jK,N6]at q;exact q.1.symm
  subst I;refine⟨.gen r,S,Pure.refl _,rfl,rfl,rfl,rfl,fun _=>⟨W.toList,j,fun w=>.slice (some (at' w.heap.size 0)) n n,lU _,am,fun w=>?_,fun w T o=>?_⟩⟩
  ·obtain⟨L,M,N,O,after,guard⟩:=b;simp only at a;subst a;have bf:=bf w;have K:J.map (fun(x:Nat×Operand)=>(x.1,u x.2))=⟨J.toList.map fun p=>(p.1,u p.2)⟩:=by apply j3;simp
   simp only[execOp];rw[K];simp[bf]
  ·exact .sl _ (.c 0) (.c n) (some (.c n)) (some (at' w.heap.size 0)) n (aV _) (fun C e=>by injection e with e;subst e;rfl)
    (.inr ⟨_,o,rfl,by show(0:Nat)+n≤W.toList.length;omega⟩)
 ·cases h
end
end
section
variable [aR][aG]
open Region
variable{Q:Oper}{k j:Nat}{S R:ai}{V:Op}{U:Oper}{b:Nat}
section
variable{C:eJ}{call:gd}{an:Nat}{dyn:Bool}{ops:List Oper}
def gk(S:ai):(iG dyn S).H=S.H:=by cases dyn<;>rfl
def Jx(S:ai):(iG dyn S).ok↔S.ok:=by cases dyn<;>exact Iff.rfl
def tJ(S R:ai):(Ex dyn S R).H=R.H:=by cases dyn<;>rfl
def Jy(S R:ai):(Ex dyn S R).ok↔R.ok:=by cases dyn<;>exact Iff.rfl
def FK{bF:Nat}{c f:aJ}{l:Option g8}(h:stepW C call an dyn ops bF Q c S=some (f,R,l)):
 ∃b a,mI ops (c.ev an) Q.guard S=some (b,a)∧Pure S a∧
  ((b=false∧f=c.put an Q.dst (.obj .bA [])∧R=a)∨
   (b=true∧gf Q.op=true∧∃v,tn C (c.ev an) Q.op bF a=some (v,R)∧f=c.put an Q.dst v)∨
   (b=true∧gf Q.op=false∧∃v e,dZ C call (c.ev an) Q.op (iG dyn a)=some (v,e)∧R=Ex dyn a e∧f=c.put an Q.dst v∧l=oL C.P dyn (c.ev an) Q.op a e)):=by
 unfold stepW at h;split at h
 ·cases h
 ·rename_i a d;simp only[aD,aO]at h;obtain⟨rfl,rfl,rfl⟩:=h;exact⟨false,a,d,CC d,.inl ⟨rfl,rfl,rfl⟩⟩
 ·rename_i a d;split at h
  ·rename_i g;split at h
   ·cases h
   rename_i v e i;simp only[aD,aO]at h;obtain⟨rfl,rfl,rfl⟩:=h;exact⟨true,a,d,CC d,.inr (.inl ⟨rfl,g,v,i,rfl⟩)⟩
  ·rename_i g;split at h
   ·cases h
   rename_i v e i;simp only[aD,aO]at h;obtain⟨rfl,rfl,rfl⟩:=h;exact⟨true,a,d,CC d,.inr (.inr ⟨rfl,g,v,e,i,rfl,rfl,rfl⟩)⟩
def Qb{ev:Operand→af}{bF:Nat}{e:af}(h:tn C ev V bF S=some (e,R)):(∃k,k.mode=.own∧R.H=fc k bF S.H)∧(R.ok→S.ok):=by
 unfold tn at h;split at h
 ·split at h
  ·simp only[aD,aO]at h;obtain⟨_,rfl⟩:=h;exact⟨⟨_,rfl,rfl⟩,id⟩
  ·cases h
 ·split at h
  case h_2=>cases h
  rename_i f g a;split at h
  case h_2=>cases h
  rename_i i U n l k c;simp only[aD,aO]at h;obtain⟨_,rfl⟩:=h;have d:=PV a;refine⟨⟨k,?_,rfl⟩,d.ok⟩;unfold tf at a
  repeat'(split at a)
  all_goals(try(cases a;done))
  simp only[aD,aO]at a;obtain⟨_,rfl⟩:=a;have h1:=B.fT ‹B.cj (N.fits _) _=some _›;have h2:=B.fT ‹B.cj (gY _ _ _) _=some _›;have m:=(h2.1.trans h1.1).H;simp only[ai.new,m,jK,N6]at c;rw[←c.1]
 ·split at h
  case h_2=>cases h
  rename_i f g a;split at h
  case h_2=>cases h
  rename_i i U n l k c;simp only[aD,aO]at h;obtain⟨_,rfl⟩:=h;have d:=PW a;refine⟨⟨k,?_,rfl⟩,d.ok⟩;unfold tg at a
  repeat'(split at a)
  all_goals(try(cases a;done))
  simp only[aD,aO]at a;obtain⟨_,rfl⟩:=a;simp only[ai.new,jK,N6]at c;rw[←c.1]
 ·cases h
def ZY:∀(r:List Oper) (i bF:Nat) (f t:aJ) (S R:ai) (m:List (Nat×g8)),uT C call an dyn ops r i bF f S=some (t,R,m)→
 ∃(aH:Nat→aJ×ai) (evs:Nat→Option g8),aH 0=(f,S)∧aH r.length=(t,R)∧
  (∀(k:Nat) Q,r[k]? =some Q→stepW C call an dyn ops (bF+iH (r.take k)) Q (aH k).1 (aH k).2=some ((aH (k+1)).1,(aH (k+1)).2,evs k))∧
  (∀(k:Nat) a,k<r.length→evs k=some a→(i+k,a)∈m)∧
  ∀eY,zz eY m=false→∀(k c:Nat) a g,k<c→c<r.length→evs k=some a→evs c=some g→pQ eY (i+k) a (i+c) g=false:=by
 intro r
 induction r with
 |nil=>
  intro i bF f t S R m h;simp only[uT,aD,aO]at h;obtain⟨rfl,rfl,rfl⟩:=h;exact⟨fun _=>(f,S),fun _=>none,rfl,rfl,fun k Q n=>by simp at n,fun k a o=>by simp at o,fun eY _ k c a g _ o=>by simp at o⟩
 |cons Q r w=>
  intro i bF f t S R m h;simp only[uT]at h;split at h
  ·cases h
  rename_i W X u E;split at h
  ·cases h
  rename_i Y Z x F;simp only[aD,aO]at h;obtain⟨rfl,rfl,rfl⟩:=h;obtain⟨aH,evs,H,I,J,y,K⟩:=w _ _ _ _ _ _ _ F;refine⟨fun k=>match k with|0=>(f,S)|k+1=>aH k,fun k=>match k with|0=>u|k+1=>evs k,rfl,by simpa using I,?_,?_,?_⟩
  ·intro k U n;cases k with
   |zero=>
    simp at n;subst n;simp only[List.take_zero,iH,gb,H];exact E
   |succ k=>
    have:=J k U (by simpa using n);have a:bF+iH ((Q::r).take (k+1))=Ey Q bF+iH (r.take k):=by
     simp only[List.take_succ_cons,iH,Ey];cases gf Q.op<;>simp<;>omega
    rw[a];exact this
  ·intro k a o e;cases k with
   |zero=>
    simp only at e;rw[e];simp[BY]
   |succ k=>
    have:=y k a (by simpa using o) e;have z:i+(k+1)=i+1+k:=by omega
    rw[z];cases u<;>simp[BY,this]
  ·intro eY d k c a g aa A e B;have L:zz eY x=false:=by
    cases u with
    |none=>exact d|some u=>
     simp only[BY,zz]at d;split at d
     ·cases d
     ·exact d
   cases c with
   |zero=>omega|succ c=>
    have D:i+(c+1)=i+1+c:=by omega
    cases k with
    |succ k=>
     have M:i+(k+1)=i+1+k:=by omega
     rw[M,D];exact K eY L k c a g (by omega) (by simpa using A) e B
    |zero=>
     simp only at e;subst e;simp only[BY,zz]at d;split at d
     ·cases d
     rename_i N;have O:=y c g (by simpa using A) B;rw[D];have P:∀(l:List (Nat×g8)),clash eY i a l=false→∀p∈l,pQ eY i a p.1 p.2=false:=by
      intro l
      induction l with
      |nil=>intro _ p s;cases s
      |cons q l w=>
       obtain⟨j,z⟩:=q;intro v p s;simp only[clash]at v;split at v
       ·cases v
       rename_i h1;rcases jJ.1 s with rfl|s
       ·exact h1
       ·exact w v p s
     exact P x N _ O
end
structure jy(C:eJ)(call:gd)(an:Nat)(bE:Nat)(dyn:Bool)(ops:Array Oper)(base:Nat)(aH:Nat→aJ×ai)(evs:Nat→Option g8):Prop where
 reg:tI C.P bE dyn ops true=true
 ext:xK call
 step:∀(k:Nat) Q,ops[k]? =some Q→stepW C call an dyn ops.toList (base+iH (ops.toList.take k)) Q (aH k).1 (aH k).2=some ((aH (k+1)).1,(aH (k+1)).2,evs k)
 evs:∀(k oC:Nat) e Oh,k<oC→oC<ops.size→evs k=some e→evs oC=some Oh→pQ (BZ ops) k e oC Oh=false
 pad:∀b,base≤b→b<base+iH ops.toList→aW b (aH 0).2.H=some ⟨.gen [],.bn⟩
 len:(aH 0).2.H.length=base+iH ops.toList
namespace jy
variable{C:eJ}{call:gd}{an bE:Nat}{dyn:Bool}{ops:Array Oper}{base:Nat}{aH:Nat→aJ×ai}{evs:Nat→Option g8}
def bF(ops:Array Oper)(base k:Nat):Nat:=base+iH (ops.toList.take k)
def Qc(a b:List Oper):iH (a++b)=iH a+iH b:=by
 induction a with
 |nil=>simp[iH]|cons Q a c=>simp only[nh,iH];cases gf Q.op<;>simp[c]<;>omega
def FL(a:ops[k]? =some Q)(c:gf Q.op=true)(h:k<j):bF ops base k<bF ops base j:=by
 have d:ops.toList[k]? =some Q:=by simpa using a
 have e:ops.toList.take j=ops.toList.take (k+1)++(ops.toList.take j).drop (k+1):=by
  have:=(Ed (k+1) (ops.toList.take j)).symm;rw[List.take_take,Be (by omega)]at this;exact this
 have f:ops.toList.take (k+1)=ops.toList.take k++[Q]:=by
  rw[V6];simp[d]
 unfold bF;rw[e,Qc,f,Qc];simp only[iH,c];omega
def vz(a:ops[k]? =some Q)(c:gf Q.op=true):bF ops base k<base+iH ops.toList:=by
 have:=FL (base:=base) a c (j:=ops.size+k+1) (by omega);unfold bF at this⊢;rw[qy (i:=ops.size+k+1) (by simp;omega)]at this;exact this
def CI(k:Nat):base≤bF ops base k:=by unfold bF;omega
def Jz(a:ops[k]? =some Q)(c:gf Q.op=true)(d:ops[j]? =some U)(e:gf U.op=true)(h:bF ops base k=bF ops base j):k=j:=by
 rcases wV k j with h1|h1|h1
 ·have:=FL (base:=base) a c h1;omega
 ·exact h1
 ·have:=FL (base:=base) d e h1;omega
variable(T:jy C call an bE dyn ops base aH evs)
include T
def vA(n:ops[k]? =some Q):
 ((aH (k+1)).2.ok→(aH k).2.ok)∧
 ((aH (k+1)).2.H=(aH k).2.H∨
  (gf Q.op=true∧∃b,b.mode=.own∧(aH (k+1)).2.H=fc b (bF ops base k) (aH k).2.H)∨
  (gf Q.op=false∧kN Q.op=true∧∃v c g,Pure (aH k).2 c∧dZ C call ((aH k).1.ev an) Q.op (iG dyn c)=some (v,g)∧(aH (k+1)).2.H=g.H∧Ext (iG dyn c) g∧evs k=oL C.P dyn ((aH k).1.ev an) Q.op c g)):=by
 obtain⟨b,c,r,d,h|h|h⟩:=FK (T.step k Q n)
 ·obtain⟨_,_,h⟩:=h;rw[h];exact⟨d.ok,.inl d.H⟩
 ·obtain⟨_,i,v,e,_⟩:=h;obtain⟨⟨o,h1,h2⟩,h3⟩:=Qb e;exact⟨fun Q=>d.ok (h3 Q),.inr (.inl ⟨i,o,h1,by rw[h2,d.H];rfl⟩)⟩
 ·obtain⟨_,i,v,g,e,l,_,p⟩:=h;have m:=Cz T.ext e;refine⟨fun Q=>d.ok ((Jx c).1 (m.ok ((Jy c g).1 (by rw[←l];exact Q)))),?_⟩;rcases kinds Q.op with a|a|a|a|a
  ·left;have:=(vv (f:=dZ C call ((aH k).1.ev an) Q.op) (fun T cs _ _=>FD a) e).H;rw[l,tJ,this,gk,d.H]
  ·left;have:=(vv (f:=dZ C call ((aH k).1.ev an) Q.op) (fun T cs q _=>Cy a (fun b _=>by rw[q])) e).H;rw[l,tJ,this,gk,d.H]
  ·rw[i]at a;cases a
  ·exact .inr (.inr ⟨i,a,v,c,g,d,e,by rw[l,tJ],m,p⟩)
  ·rw[a]at e;cases e
def CJ(h:k≤j)(f:j≤ops.size):(aH k).2.H.length≤(aH j).2.H.length:=by
 induction j with
 |zero=>have:k=0:=by omega
        subst this;exact aV _
 |succ j a=>
  rcases cu k (j+1)with h1|h1
  ·refine ga (a (by omega) (by omega)) ?_;have c:j<ops.size:=by omega
   obtain⟨_,h|⟨_,b,_,h⟩|⟨_,_,v,g,i,d,_,h,e,_⟩⟩:=T.vA (dP c)
   ·rw[h];exact aV _
   ·rw[h,iN,lJ];exact aV _
   ·rw[h];have:=e.len;rw[gk,d.H]at this;exact this
  ·have:k=j+1:=by omega
   subst this;exact aV _
def ZZ(h:k≤j)(d:j≤ops.size)(ok:(aH j).2.ok):(aH k).2.ok:=by
 induction j with
 |zero=>have:k=0:=by omega
        subst this;exact ok
 |succ j a=>
  rcases cu k (j+1)with h1|h1
  ·have c:j<ops.size:=by omega
   exact a (by omega) (by omega) ((T.vA (dP c)).1 ok)
  ·have:k=j+1:=by omega
   subst this;exact ok
def early(a:ops[j]? =some Q)(d:gf Q.op=true):∀k,k≤j→aW (bF ops base j) (aH k).2.H=some ⟨.gen [],.bn⟩:=by
 have n:j<ops.size:=(dX.1 a).1;intro k
 induction k with
 |zero=>intro _;exact T.pad _ (CI j) (vz a d)|succ k f=>
  intro o;have c:=f (by omega);have e:k<ops.size:=by omega
  obtain⟨_,h|⟨g,b,_,h⟩|⟨_,_,v,p,q,i,_,h,l,_⟩⟩:=T.vA (dP e)
  ·rw[h];exact c
  ·rw[h,kQ,ak]
   ·exact c
   ·intro⟨m,_⟩;have:=Jz (dP e) g a d m;omega
  ·rw[h];exact l.bn _ _ (by rw[gk,i.H];exact c) rfl
def owned(f:ops[j]? =some Q)(g:gf Q.op=true):∀k,k≤ops.size→∀c,aW (bF ops base j) (aH k).2.H=some c→c.mode≠.ro:=by
 intro k
 induction k with
 |zero=>
  intro _ c a;rw[T.pad _ (CI j) (vz f g)]at a;injection a with a;subst a;simp
 |succ k e=>
  intro o c a d;have i:k<ops.size:=by omega
  obtain⟨_,h|⟨p,b,l,h⟩|⟨_,_,v,q,r,m,_,h,n,_⟩⟩:=T.vA (dP i)
  ·rw[h]at a;exact e (by omega) c a d
  ·rw[h,kQ]at a;split at a
   ·injection a with a;subst a;rw[l]at d;cases d
   ·exact e (by omega) c a d
  ·rw[h]at a;have:=n.ro _ _ a d;rw[gk,m.H]at this;exact e (by omega) c this d
def cW(aH:Nat→aJ×ai)(b k:Nat):Prop:=aW b (aH (k+1)).2.H≠aW b (aH k).2.H
def tK(a:ops[k]? =some Q)(h:cW aH b k):kN Q.op=true∨(gf Q.op=true∧b=bF ops base k):=by
 obtain⟨_,h1|⟨c,f,_,h1⟩|⟨_,d,_⟩⟩:=T.vA a
 ·exact absurd (by rw[h1]) h
 ·right;refine⟨c,?_⟩;unfold cW at h;rw[h1,kQ]at h;split at h
  ·rename_i e;exact e.1.symm
  ·exact absurd rfl h
 ·exact .inl d
omit T in
def JA(h:gf V=true):kN V=false:=by cases V<;>simp_all[gf,kN]
def JB{d:Nat}(g:k<d)(f:ops[k]? =some Q)(e:ops[d]? =some U)(h:cW aH b k)(i:cW aH b d):eY ops d k:=by
 rcases vw T.reg g f e with h1|h1
 ·exact h1
 exfalso;simp only[p0,dI,nj,y3,Bo,pN]at h1;obtain⟨⟨⟨_,h3⟩,h4⟩,_⟩:=h1;rcases T.tK f h with a|⟨a,rfl⟩<;>rcases T.tK e i with c|⟨c,l⟩
 ·rcases h3 with h3|h3<;>simp_all
 ·subst l;have m:=T.early e c k (by omega);have n:=T.early e c (k+1) (by omega);exact h (by rw[m,n])
 ·rcases h4 with h4|h4
  ·simp_all
  ·simp_all
 ·have:=FL (base:=base) f a g;omega
end jy
end
end Go.ay
end

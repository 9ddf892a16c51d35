/- FnArgon2Derive: of all modes, bytes and costs the package's key is the reference's, and readArgon says true. No condition but that blake2b's tables hold what the card ties. -/
import Derived.Test.YtcminalaicidiaaGreatDoorZH
import Derived.Test.YtcminalaicidiaaGreatDoorCards
import Derived.Test.YtcminalaicidiaaGreatDoorTie
import Derived.SevenTiedAt
import Derived.Conc.Holds
import Derived.Conc.LeavingOf
set_option maxRecDepth 100000
set_option maxHeartbeats 8000000
set_option linter.all false
noncomputable section
namespace Go.Proofs.YtcminalaicidiaaGreatDoor
section
open Go.ChangeShapes Go.WideShapes Go.ChangeAt Go.RowKit
open Go.aA Go.Conc
variable{Q:World}{R:Type}{enc:TypeId×Value→R}{P:Program}{v:Value}
def anU [aR][aF](n:Ap Q){t e u:Nat}{cs:List Value}{w:DataW R×List MemPlace}(x:P.underlying t=some (.slice e))(y:P.underlying e=some (.int .u8))(A:P.cellsOf e=1)
 (B:DataW.trod enc P Q 0 (fun _=>true) true u t cs=some w):∃(v:Value) (l:U 8),cs=[v]∧oY Q v (.ag l):=by
 rcases open_ints x y A B with⟨f,C⟩|⟨a,len,g,c,f,_,o,J,D,C,p,E⟩
 ·exact⟨_,U.of [],f,none,0,rfl,aX _,.inl rfl⟩
 simp only[gT]at D;have j:(Data.ag (U.of ((c.take len).map (BitVec.ofInt 8)))).len=len:=by
  show((c.take len).map (BitVec.ofInt 8)).length=len;rw[lQ,qx];omega
 refine⟨_,U.of ((c.take len).map (BitVec.ofInt 8)),f,some a,g,by rw[j],by rw[j];exact o,?_⟩;by_cases F:g=0
 ·exact .inl F
 right;have d:=p 0 (by omega);have K:a.spot=none:=by simpa[Addr.add]using World.cell?_spot d
 have k:a.block<Q.heap.size:=by have:=zG d;simpa[Addr.add]using this
 refine⟨⟨a.block,a.off,g⟩,by cases a;simp_all[at'],aX _,k,by rw[j];exact o,fun i L q=>?_⟩;simp only[Data.at,U.of]at q;obtain⟨b,r,rfl⟩:=aa6 q;rw[dY,bU]at r;obtain⟨z,m,rfl⟩:=r;have hi:i<len:=by have:=(dX.1 m).1;rw[qx]at this;omega
 have H:c.getD i 0=z:=by
  have:=aa7 m;simpa[List.getD,hi]using this
 have s:=p i (by omega);have I:(a.add i)=at' a.block (a.off+i):=by
  unfold Addr.add at';split
  ·rename_i d;subst d;cases a;simp_all
  ·cases a;simp
 rw[I,H]at s;refine⟨_,s,?_,rfl,.inl ⟨(n _ k).1,fun h=>absurd h (n _ k).2⟩⟩;rw[←aa8 (E z (List.mem_of_mem_take (rH m)))];exact .num _
def anV [aR][aF]{base n:Nat}(o:Ap Q){t b c:TypeId}{r:Reach}{q:DataW R}{s:List MemPlace}(d:P.underlying t=some (.array n b))(u:P.underlying b=some (.slice c))(w:P.underlying c=some (.int .u8))(x:P.cellsOf c=1)(y:P.cellsOf b=1)(z:P.cellsOf t=n)
 (e:Value.okWide P Q r base t v) (h:DataW.Trod enc P Q 0 (fun _=>true) true t v q s):
 ∃(f:Nat→Value) (l:Nat→U 8),v=.agg ⟨(List.range n).map f⟩∧∀i,i<n→oY Q (f i) (.ag (l i)):=by
 have A:∃cs:Array Value,v=.agg cs:=by
  simp only[Value.okWide,d]at e;obtain⟨cs,h1,_⟩:=e;exact⟨cs,h1⟩
 obtain⟨cs,rfl⟩:=A;obtain⟨H,B⟩:=h;obtain⟨I,m,_,_,C,J,g⟩:=DataW.trod_array d B;have j:(Value.agg cs).cells.toList=cs.toList:=rfl;rw[j,z]at C;rw[j]at g;have a:∀i,∃p:Value×U 8,i<n→cs.toList[i]? =some p.1∧oY Q p.1 (.ag p.2):=by
  intro i;by_cases hi:i<n
  ·have k:=g i hi;rw[y,w8,bW (by omega)]at k;obtain⟨v,l,D,E⟩:=anU o u w x k;refine⟨(v,l),fun _=>⟨?_,E⟩⟩;have F:((cs.toList.drop i).take 1)[0]? =some v:=by rw[D];rfl
   simpa using F
  ·exact⟨(.bool false,U.of []),fun h=>absurd h hi⟩
 refine⟨fun i=>(Classical.choose (a i)).1,fun i=>(Classical.choose (a i)).2,?_,fun i hi=>(On (a i) hi).2⟩;congr 1;apply jO;apply uH;intro i;rcases cv i n with hi|hi
 ·rw[(On (a i) hi).1,dY,Ep hi];rfl
 ·rw[di (by omega),di (by simpa using hi)]
section
variable{S:Machine}
def anW [aR]{a:World}(e:laidMetH Tryz.prog y5 a)(b:@Ap (jb Tryz.prog S 33) a)(N:Int){x:Nat→Value}(l:Nat→U 8)(z:Nat→Int)(w1:letI:=jb Tryz.prog S 33;∀i,i<4→oY a (x i) (aA.Data.ag (l i))):
 @jU (jb Tryz.prog S 33) Tryz.prog 3 #[.int .i64 N,.agg ⟨(List.range 4).map x⟩,.agg ⟨(List.range 4).map fun i=>.int .i64 (z i)⟩] a fun f j=>f=.returned (.bool true)∧nJ a j:=by
 letI:=jb Tryz.prog S 33;have k:br 8 pS.spec:=amS UP (show(13:Nat)≠33 by decide) am9;have m:=dm (anP UP (show(9:Nat)≠33 by decide) k) (cK (Eg en gY));have o:∀p∈[(x 0,aA.Data.ag (l 0)),(x 1,aA.Data.ag (l 1)),(x 2,aA.Data.ag (l 2)),(x 3,aA.Data.ag (l 3))],oY a p.1 p.2:=F7 (w1 0 (by decide)) (F7 (w1 1 (by decide)) (F7 (w1 2 (by decide)) (F7 (w1 3 (by decide)) abe)));obtain⟨D,cs,q,r⟩:=anT (l 0) (l 1) (l 2) (l 3) (z 0) (z 1) (z 2) (z 3) N;refine abd m [(x 0,aA.Data.ag (l 0)),(x 1,aA.Data.ag (l 1)),(x 2,aA.Data.ag (l 2)),(x 3,aA.Data.ag (l 3))] (fun g x t=>?_) b o q r fun β h=>aJ.cons (Rk .i64 N) (aJ.cons (Rl (n:=4) (x:=fun i=>.ref (.sl i (.c 0) (.s (l i).n) none)) fun i hi=>?_) (aJ.cons (Rl (n:=4) (x:=fun i=>.num (.int .i64 (.s (z i)))) fun i _=>Rk .i64 (z i)) (aJ.nil β)))
 ·obtain⟨w,y⟩:=ann e g x t;refine⟨w,fun i A B=>?_⟩;obtain⟨u,d,C⟩:=y i A B;exact⟨u,d,C,(by unfold gK;split<;>rfl),.inl ⟨(b _ (zG d)).1,fun h=>absurd h (b _ (zG d)).2⟩⟩
 ·have:i=0∨i=1∨i=2∨i=3:=by omega
  rcases this with rfl|rfl|rfl|rfl
  ·exact h 0 _ _ rfl
  ·exact h 1 _ _ rfl
  ·exact h 2 _ _ rfl
  ·exact h 3 _ _ rfl
end
def anX:Tryz.f3.results=#[.tmp 6]:=by kernel_rfl
def anY{fn:Func}{t:Tmp}(h:fn.results=#[.tmp t])(a:Array Value)(P:Program)(w:World):(results fn a).events P w #[]=#[]:=by
 simp[results,h]
def anZ{a:Frame}{w:World}(b:a.fn=3)(c:a.mode=.returning)(d:a.defers=[])(e:a.kind=.normal)
 (f:(results Tryz.f3 a.tmps).run Tryz.prog w=.ok v w):stepG Tryz.prog true (G a []) w=.ended (.done v) w #[]:=by
 have g:=anY anX a.tmps Tryz.prog w;have h:seen Tryz.prog a.fn ((results Tryz.f3 a.tmps).events Tryz.prog w #[])=#[]:=by rw[g];rfl
 have i:Tryz.prog.funcs[a.fn]? =some Tryz.f3:=by rw[b];exact Tryz.func3
 have hi:¬2=a.fn:=by rw[b];decide
 simp[G,stepG,unwind,doReturn,c,d,e,i,f,hi,GStep.after,h]
def N7(g:Goroutine)(Q:World)(a:FuncId):@Ap (jb Tryz.prog (solo g Q) a) Q:=fun c b=>⟨fun d=>absurd d.1 (Nat.not_le.2 b),fun h=>h⟩
def an0{args:Array Value}{d:Value→World→Prop}(k:∀b,nJ Q b→d (.bool true) b)
 (h:@jU (jb Tryz.prog (solo (G (Frame.enter Tryz.prog 3 args .normal) []) Q) 33) Tryz.prog 3 args Q fun l b=>l=.returned (.bool true)∧nJ Q b):
 ∃M last e w' i,runNT Tryz.prog (M+1) (solo (G (Frame.enter Tryz.prog 3 args .normal) []) Q) #[]=(.ended e w',i)∧runN Tryz.prog M (solo (G (Frame.enter Tryz.prog 3 args .normal) []) Q)=.next last∧
  step Tryz.prog last=.ended e w'∧Conc.Good Tryz.prog d last e w' i:=by
 letI:=jb Tryz.prog (solo (G (Frame.enter Tryz.prog 3 args .normal) []) Q) 33;have m:=N7 (G (Frame.enter Tryz.prog 3 args .normal) []) Q 33;refine ends (cu:=solo (G (Frame.enter Tryz.prog 3 args .normal) []) Q) (F:=33) (h [] (O6 Tryz.prog d) fun v w' n=>?_) (xE.first _ _);obtain⟨f,o⟩:=n;injection f with f;subst f;intro B p;refine .stop fun q a=>⟨rfl,.bool true,#[],?_,rfl,k _ ?_⟩
 ·obtain⟨r,s,t,u,fn,w,x⟩:=p;obtain rfl:fn=Tryz.f3:=dV (w.symm.trans Tryz.func3);exact anZ r s t u (EL _ (x q a)).1
 ·obtain⟨y,z,j,A⟩:=o;exact⟨a.os.trans y,a.output.trans z,gb j a.size,fun c g=>(a.mine c (dL g j) (m c g).1).trans (A c g)⟩
def own:ownKnob Tryz.prog.godebug=none:=by kernel_rfl
def laidOut:laidOutB Tryz.prog=true:=by kernel_rfl
def an1:Tryz.prog.readableRec 3=true∧3<Tryz.prog.types.size:=⟨by kernel_rfl,aZ (by kernel_rfl)⟩
def an2:Tryz.prog.readableRec 23=true∧23<Tryz.prog.types.size:=⟨by kernel_rfl,aZ (by kernel_rfl)⟩
def an3:Tryz.prog.readableRec 24=true∧24<Tryz.prog.types.size:=⟨by kernel_rfl,aZ (by kernel_rfl)⟩
def an4:Tryz.prog.cellsOf 3=1:=by kernel_rfl
def an5:Tryz.prog.cellsOf 22=1:=by kernel_rfl
def an6:Tryz.prog.cellsOf 23=4:=by kernel_rfl
def an7:Tryz.prog.cellsOf 24=4:=by kernel_rfl
def an8(R:Type)(enc:TypeId×Value→R)(Q:World)(base:Nat)(args:Array Value)(e m:List (DataW R))(before:List MemPlace)
 (a:∀(j:Nat) t v,Tryz.f3.params[j]? =some t→args[j]? =some v→Value.okWide Tryz.prog Q .any base t v)
 (n:laidMetH Tryz.prog y5 Q)
 (f:DataW.Whole enc Tryz.prog Tryz.f3.params.toList Rows.fnArgon2DeriveSpec.vars false Q args.toList e m before):
 ∃M last b w' g,runNT Tryz.prog (M+1) (solo (G (Frame.enter Tryz.prog 3 args .normal) []) Q) #[]=(.ended b w',g)∧runN Tryz.prog M (solo (G (Frame.enter Tryz.prog 3 args .normal) []) Q)=.next last∧
  step Tryz.prog last=.ended b w'∧Conc.Good Tryz.prog (fun v h=>Rows.fnArgon2DeriveSpec.post enc Tryz.prog Tryz.f3 false true false false Q args v h) last b w' g:=by
 have o:=f;obtain⟨p,q,r,A,rfl,B,C⟩:=f;have cC:DataW.TrodAll enc Tryz.prog Q 0 (fun _=>true) true Tryz.f3.params.toList args.toList e p:=r;rw[Tryz.params3]at cC a;obtain⟨i,D,E,F,H,I,J,rfl,rfl,s,u⟩:=trodAll_cons cC;obtain⟨c,K,L,N,O,T,rfl,rfl,rfl,h1,w⟩:=trodAll_cons u;obtain⟨d,U,d2,V,W,X,rfl,rfl,rfl,h2,x⟩:=trodAll_cons w;obtain⟨rfl,rfl,rfl⟩:=trodAll_nil x;obtain rfl:args=#[i,c,d]:=by cases args;simp_all
 letI:aR:=⟨fun _=>(0,0)⟩;obtain⟨n0,rfl,rfl,rfl,Y⟩:=open_int Tryz.underlying3 (a 0 3 i rfl rfl) s;letI:=jb Tryz.prog (solo (G (Frame.enter Tryz.prog 3 #[.int .i64 n0,c,d] .normal) []) Q) 33;obtain⟨z,rfl,_⟩:=aa9 Tryz.underlying24 Tryz.underlying3 an4 an7 (a 2 24 d rfl rfl) h2;obtain⟨Z,l,rfl,w1⟩:=anV (N7 _ Q 33) Tryz.underlying23 Tryz.underlying22 Tryz.underlying5 VZ an5 an6 (a 1 23 c rfl rfl) h1;refine an0 (fun h y=>?_) (anW n (N7 _ Q 33) n0 l z w1);exact aa5 (tb:=4) o rfl rfl laidOut (by
  intro t k;rw[Tryz.params3]at k;have:t=3∨t=23∨t=24:=by simpa using k
  rcases this with rfl|rfl|rfl
  ·exact an1
  ·exact an2
  ·exact an3) (by kernel_rfl) Tryz.underlying4 y
def lifted(os:Os)(started:os.Started)(R:Type)(enc:TypeId×Value→R):
 ReturnsInLeavingWide {} Tryz.checked os 3 .any (fun w args=>(Rows.fnArgon2DeriveSpec.pre enc Tryz.prog Tryz.f3 [] false w args∧laidMetH Tryz.prog y5 w)∧sizedMet enc Tryz.prog Tryz.f3 (OpenSpec.ofChange Rows.fnArgon2DeriveSpec) false w args)
  (Rows.fnArgon2DeriveSpec.post enc Tryz.prog Tryz.f3 false true false false):=by
 refine returnsInLeavingWide_of_good (C:=Tryz.checked) own started
  (ChangeSpec.witness_shaped (enc:=enc) (C:=Tryz.checked) (os:=os) (X:=fun w _=>laidMetH Tryz.prog y5 w) false (V4 os) #[.int .i64 0,.agg #[.slice none 0 0,.slice none 0 0,.slice none 0 0,.slice none 0 0],.agg #[.int .i64 0,.int .i64 0,.int .i64 0,.int .i64 0]] 8 rfl (World.shaped_of_RefB (by kernel_rfl) (by kernel_rfl)) (by kernel_rfl) (by kernel_rfl) (by kernel_rfl) (anq os _)) ?_
 intro w a i _ _ _ b c _;obtain⟨_,_,_,d,e,_,_,_,_,f⟩:=b;have g:d=Tryz.f3:=dV (e.symm.trans Tryz.func3);subst g;obtain⟨⟨⟨h,j,before,k,q⟩,l⟩,r⟩:=c;have m:=DataW.Whole.of_heap (w':=w.forCall a i) (by rfl) k;obtain⟨M,last,n,w',o,h1,h2,h3,h4⟩:=an8 R enc (w.forCall a i) w.heap.size i.args h j before f (l.of_heap (by rfl)) m;exact⟨M,last,n,w',o,h1,h2,h3,h4.mono fun v p=>ChangeSpec.post_blind p⟩
def holds:Rows.FnArgon2DeriveSaid:=
 OpenClaim.holds_of_wide_leaving 3 Tryz.f3 rfl rfl rfl rfl rfl rfl rfl ⟨rfl,rfl,rfl,rfl,rfl⟩ rfl rfl rfl rfl rfl (by kernel_rfl) Tryz.func3 (by kernel_rfl)
  (aZ (by kernel_rfl)) (by unfold Func.isWrapper;first|(rw[av (by decide+kernel)];kernel_rfl)|(rw[ak (by decide+kernel)];exact⟨rfl,rfl⟩))
  (fun os started R enc _=>lifted os started R enc)
theorem card_holds:Rows.FnArgon2DeriveCardSaid:=by
 have b:∀f fn,Tryz.prog.funcNamed "pub-wardkeep/laws.FnArgon2Derive" =some f→Tryz.prog.funcs[f]? =some fn→false=Tryz.prog.looks []∧∀(j:Nat) t,fn.params[j]? =some t→Tryz.prog.wantsStandIn t=false:=fun f fn c d=>by
  obtain rfl:f=3:=dV ((show Tryz.prog.funcNamed "pub-wardkeep/laws.FnArgon2Derive" =some 3 by kernel_rfl).symm.trans c) |>.symm;obtain rfl:fn=Tryz.f3:=(dV (Tryz.func3.symm.trans d)).symm;exact⟨by kernel_rfl,fun j t a=>by
   rw[Tryz.params3]at a;have h3:t=3∨t=23∨t=24:=by
    rcases j with _|_|_|j
    ·left;simpa using a.symm
    ·right;left;simpa using a.symm
    ·right;right;simpa using a.symm
    ·simp at a
   rcases h3 with rfl|rfl|rfl
   ·exact(show Tryz.prog.wantsStandIn 3=false by kernel_rfl)
   ·exact(show Tryz.prog.wantsStandIn 23=false by kernel_rfl)
   ·exact(show Tryz.prog.wantsStandIn 24=false by kernel_rfl)⟩
 have e:=Claim7.tied_new_at .later [.sentinel,.sentinel,.data,.data] true (Claim7.new_of_sixth holds (true, "a9dc6c6dc0367eec5be6d26692a05c32b57fda6e9593edd78de80ae44127e478") false rfl ⟨rfl,rfl⟩ (by kernel_rfl) (by kernel_rfl) b) (by kernel_rfl);exact⟨e,(fun _ h=>by cases h),fnArgon2Derive_row_tie,(fun h=>by cases h),by kernel_rfl⟩
end
end Go.Proofs.YtcminalaicidiaaGreatDoor
end

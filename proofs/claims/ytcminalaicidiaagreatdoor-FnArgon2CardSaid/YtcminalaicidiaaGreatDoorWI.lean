/- FnArgon2: for both kinds, passwords, salts and costs the package's key is the reference's, or there is none, and readArgon says true. No condition but that blake2b's tables hold what the text lays in them, which the card ties. -/
import Derived.Test.YtcminalaicidiaaGreatDoorWH
import Derived.Test.YtcminalaicidiaaGreatDoorCards
import Derived.Test.YtcminalaicidiaaGreatDoorTie
import Derived.SevenTiedAt
import Derived.Conc.Holds
import Derived.Conc.LeavingOf
set_option maxRecDepth 100000
set_option maxHeartbeats 8000000
set_option linter.all false
noncomputable section
namespace Go.Proofs.YtcminalaicidiaaGreatDoor
section
open Go.ChangeShapes Go.WideShapes Go.ChangeAt Go.RowKit
open Go.ay Go.Conc
section
variable{Q:Machine}
def anC [aR]{e:World}(A:laidMetH Tryz.prog yW e)(j:@Aj (iM Tryz.prog Q 33) e)(N:Int){x f:Value}(a b:U 8)(z:Nat→Int)(B:@oZ _ (iM Tryz.prog Q 33) e x (ay.Data.aj a))(m:@oZ _ (iM Tryz.prog Q 33) e f (ay.Data.aj b)):
 @j6 (iM Tryz.prog Q 33) Tryz.prog 4 #[.int .i64 N,x,f,.agg ⟨(List.range 4).map fun i=>.int .i64 (z i)⟩] e fun C D=>C=.returned (.bool true)∧nL e D:=by
 letI:=iM Tryz.prog Q 33;have t:br 8 ny.spec:=amu UB (show(13:Nat)≠33 by decide) amL;have w:∀p∈[(x,ay.Data.aj a),(f,ay.Data.aj b)],oZ e p.1 p.2:=Q4 B (Q4 m aa2);have k:∀g l,bB g=some l→gZ g<e.heap.size∧∀(i:Nat) x,l[i]? =some x→∃v,e.cell? (gz g i)=some v∧aC (fun _=>none) x v∧gh (gz g i) false:=fun g x k=>by
  obtain⟨E,F⟩:=amY A g x k;refine⟨E,fun i f m=>?_⟩;obtain⟨u,o,H⟩:=F i f m;exact⟨u,o,H,(by unfold gz;split<;>rfl),.inl ⟨(j _ (zB o)).1,fun h=>absurd h (j _ (zB o)).2⟩⟩
 have y:∀β:aE,(∀(i:Nat) v d,[(x,ay.Data.aj a),(f,ay.Data.aj b)][i]? =some (v,d)→aC β (.sl i (.c 0) (.s d.len) none) v)→aK β [.num (.int .i64 (.s N)),.ref (.sl 0 (.c 0) (.s a.n) none),.ref (.sl 1 (.c 0) (.s b.n) none),.agg [.num (.int .i64 (.s (z 0))),.num (.int .i64 (.s (z 1))),.num (.int .i64 (.s (z 2))),.num (.int .i64 (.s (z 3)))]] [.int .i64 N,x,f,.agg ⟨(List.range 4).map fun i=>.int .i64 (z i)⟩]:=fun β h=>
  aK.cons (Q2 .i64 N) (aK.cons (h 0 _ _ rfl) (aK.cons (h 1 _ _ rfl) (aK.cons (aa1 (n:=4) (x:=fun i=>.num (.int .i64 (.s (z i)))) fun i _=>Q2 .i64 (z i)) (aK.nil β))))
 rcases anw a b (z 0) (z 1) (z 2) (z 3) N with⟨I,cs,q,r⟩|⟨I,cs,q,r⟩
 ·exact Q3 (dn (ant UB (show(13:Nat)≠33 by decide) t) (cL (kE ez jZ))) [(x,ay.Data.aj a),(f,ay.Data.aj b)] k j w q r y
 ·exact Q3 (dn (anu (anB (show(13:Nat)≠33 by decide)) t) (cL Bc)) [(x,ay.Data.aj a),(f,ay.Data.aj b)] k j w q r y
end
def anD:Tryz.f4.results=#[.tmp 8]:=by kernel_rfl
def anE{fn:Func}{t:Tmp}(h:fn.results=#[.tmp t])(a:Array Value)(P:Program)(w:World):(results fn a).events P w #[]=#[]:=by
 simp[results,h]
def anF{a:Frame}{v:Value}{w:World}(b:a.fn=4)(c:a.mode=.returning)(d:a.defers=[])(e:a.kind=.normal)
 (f:(results Tryz.f4 a.tmps).run Tryz.prog w=.ok v w):stepG Tryz.prog true (G a []) w=.ended (.done v) w #[]:=by
 have g:=anE anD a.tmps Tryz.prog w;have h:seen Tryz.prog a.fn ((results Tryz.f4 a.tmps).events Tryz.prog w #[])=#[]:=by rw[g];rfl
 have i:Tryz.prog.funcs[a.fn]? =some Tryz.f4:=by rw[b];exact Tryz.func4
 have hi:¬2=a.fn:=by rw[b];decide
 simp[G,stepG,unwind,doReturn,c,d,e,i,f,hi,GStep.after,h]
def HN(g:Goroutine)(a:World)(b:FuncId):@Aj (iM Tryz.prog (solo g a) b) a:=fun c d=>⟨fun e=>absurd e.1 (Nat.not_le.2 d),fun h=>h⟩
def anG{args:Array Value}{a:World}{e:Value→World→Prop}(l:∀d,nL a d→e (.bool true) d)
 (h:@j6 (iM Tryz.prog (solo (G (Frame.enter Tryz.prog 4 args .normal) []) a) 33) Tryz.prog 4 args a fun m d=>m=.returned (.bool true)∧nL a d):
 ∃M last f w' j,runNT Tryz.prog (M+1) (solo (G (Frame.enter Tryz.prog 4 args .normal) []) a) #[]=(.ended f w',j)∧runN Tryz.prog M (solo (G (Frame.enter Tryz.prog 4 args .normal) []) a)=.next last∧
  step Tryz.prog last=.ended f w'∧Conc.Good Tryz.prog e last f w' j:=by
 letI:=iM Tryz.prog (solo (G (Frame.enter Tryz.prog 4 args .normal) []) a) 33;have n:=HN (G (Frame.enter Tryz.prog 4 args .normal) []) a 33;refine ends (cv:=solo (G (Frame.enter Tryz.prog 4 args .normal) []) a) (F:=33) (h [] (OP Tryz.prog e) fun v w' o=>?_) (xy.first _ _);obtain⟨g,p⟩:=o;injection g with g;subst g;intro C q;refine .stop fun r b=>⟨rfl,.bool true,#[],?_,rfl,l _ ?_⟩
 ·obtain⟨s,t,u,w,fn,x,y⟩:=q;obtain rfl:fn=Tryz.f4:=dV (x.symm.trans Tryz.func4);exact anF s t u w (EC _ (y r b)).1
 ·obtain⟨z,A,k,B⟩:=p;exact⟨b.os.trans z,b.output.trans A,ga k b.size,fun c i=>(b.mine c (dN i k) (n c i).1).trans (B c i)⟩
def own:ownKnob Tryz.prog.godebug=none:=by kernel_rfl
def laidOut:laidOutB Tryz.prog=true:=by kernel_rfl
def anH:Tryz.prog.readableRec 3=true∧3<Tryz.prog.types.size:=⟨by kernel_rfl,bg (by kernel_rfl)⟩
def anI:Tryz.prog.readableRec 22=true∧22<Tryz.prog.types.size:=⟨by kernel_rfl,bg (by kernel_rfl)⟩
def anJ:Tryz.prog.readableRec 24=true∧24<Tryz.prog.types.size:=⟨by kernel_rfl,bg (by kernel_rfl)⟩
def anK:Tryz.prog.cellsOf 3=1:=by kernel_rfl
def anL:Tryz.prog.cellsOf 24=4:=by kernel_rfl
def anM(i:Type)(enc:TypeId×Value→i)(c:World)(base:Nat)(args:Array Value)(k s:List (DataW i))(before:List MemPlace)
 (d:∀(j:Nat) t v,Tryz.f4.params[j]? =some t→args[j]? =some v→Value.okWide Tryz.prog c .any base t v)
 (u:laidMetH Tryz.prog yW c)
 (l:DataW.Whole enc Tryz.prog Tryz.f4.params.toList Rows.fnArgon2Spec.vars false c args.toList k s before):
 ∃M last e w' m,runNT Tryz.prog (M+1) (solo (G (Frame.enter Tryz.prog 4 args .normal) []) c) #[]=(.ended e w',m)∧runN Tryz.prog M (solo (G (Frame.enter Tryz.prog 4 args .normal) []) c)=.next last∧
  step Tryz.prog last=.ended e w'∧Conc.Good Tryz.prog (fun v n=>Rows.fnArgon2Spec.post enc Tryz.prog Tryz.f4 false true false false c args v n) last e w' m:=by
 have w:=l;obtain⟨p,q,x,H,rfl,I,J⟩:=l;have cB:DataW.TrodAll enc Tryz.prog c 0 (fun _=>true) true Tryz.f4.params.toList args.toList k p:=x;rw[Tryz.params4]at cB d;obtain⟨o,K,L,N,O,P,R,rfl,rfl,y,A⟩:=trodAll_cons cB;obtain⟨f,S,T,U,V,W,rfl,rfl,rfl,h1,B⟩:=trodAll_cons A;obtain⟨g,X,d2,Y,Z,aa,rfl,rfl,rfl,h2,C⟩:=trodAll_cons B;obtain⟨h,ab,ad,ae,af,ag,rfl,rfl,rfl,h3,D⟩:=trodAll_cons C;obtain⟨rfl,rfl,rfl⟩:=trodAll_nil D;obtain rfl:args=#[o,f,g,h]:=by cases args;simp_all
 letI:aR:=⟨fun _=>(0,0)⟩;obtain⟨n0,rfl,rfl,rfl,ah⟩:=open_int Tryz.underlying3 (d 0 3 o rfl rfl) y;letI:=iM Tryz.prog (solo (G (Frame.enter Tryz.prog 4 #[.int .i64 n0,f,g,h] .normal) []) c) 33;obtain⟨z,rfl,_⟩:=aaX Tryz.underlying24 Tryz.underlying3 anK anL (d 3 24 h rfl rfl) h3;obtain⟨a,w1,_⟩:=Q1 (HN _ c 33) Tryz.underlying22 Tryz.underlying5 NO (d 1 22 f rfl rfl) h1;obtain⟨b,E,_⟩:=Q1 (HN _ c 33) Tryz.underlying22 Tryz.underlying5 NO (d 2 22 g rfl rfl) h2;refine anG (fun n F=>?_) (anC u (HN _ c 33) n0 a b z w1 E);exact aaS (tb:=4) w rfl rfl laidOut (by
  intro t r;rw[Tryz.params4]at r;have:t=3∨t=22∨t=24:=by simpa using r
  rcases this with rfl|rfl|rfl
  ·exact anH
  ·exact anI
  ·exact anJ) (by kernel_rfl) Tryz.underlying4 F
def lifted(os:Os)(started:os.Started)(a:Type)(enc:TypeId×Value→a):
 ReturnsInLeavingWide {} Tryz.checked os 4 .any (fun w args=>(Rows.fnArgon2Spec.pre enc Tryz.prog Tryz.f4 [] false w args∧laidMetH Tryz.prog yW w)∧sizedMet enc Tryz.prog Tryz.f4 (OpenSpec.ofChange Rows.fnArgon2Spec) false w args)
  (Rows.fnArgon2Spec.post enc Tryz.prog Tryz.f4 false true false false):=by
 refine returnsInLeavingWide_of_good (C:=Tryz.checked) own started
  (ChangeSpec.witness_shaped (enc:=enc) (C:=Tryz.checked) (os:=os) (X:=fun w _=>laidMetH Tryz.prog yW w) false (VP os) #[.int .i64 0,.slice none 0 0,.slice none 0 0,.agg #[.int .i64 0,.int .i64 0,.int .i64 0,.int .i64 0]] 8 rfl (World.shaped_of_RefB (by kernel_rfl) (by kernel_rfl)) (by kernel_rfl) (by kernel_rfl) (by kernel_rfl) (am1 os _)) ?_
 intro w b i _ _ _ c d _;obtain⟨_,_,_,e,f,_,_,_,_,g⟩:=c;have h:e=Tryz.f4:=dV (f.symm.trans Tryz.func4);subst h;obtain⟨⟨⟨j,k,before,l,r⟩,m⟩,s⟩:=d;have n:=DataW.Whole.of_heap (w':=w.forCall b i) (by rfl) l;obtain⟨M,last,o,w',p,h1,h2,h3,h4⟩:=anM a enc (w.forCall b i) w.heap.size i.args j k before g (m.of_heap (by rfl)) n;exact⟨M,last,o,w',p,h1,h2,h3,h4.mono fun v q=>ChangeSpec.post_blind q⟩
def holds:Rows.FnArgon2Said:=
 OpenClaim.holds_of_wide_leaving 4 Tryz.f4 rfl rfl rfl rfl rfl rfl rfl ⟨rfl,rfl,rfl,rfl,rfl⟩ rfl rfl rfl rfl rfl (by kernel_rfl) Tryz.func4 (by kernel_rfl)
  (bg (by kernel_rfl)) (by unfold Func.isWrapper;first|(rw[ax (by decide+kernel)];kernel_rfl)|(rw[ak (by decide+kernel)];exact⟨rfl,rfl⟩))
  (fun os started b enc _=>lifted os started b enc)
theorem card_holds:Rows.FnArgon2CardSaid:=by
 have b:∀f fn,Tryz.prog.funcNamed "pub-wardkeep/laws.FnArgon2" =some f→Tryz.prog.funcs[f]? =some fn→false=Tryz.prog.looks []∧∀(j:Nat) t,fn.params[j]? =some t→Tryz.prog.wantsStandIn t=false:=fun f fn c d=>by
  obtain rfl:f=4:=dV ((show Tryz.prog.funcNamed "pub-wardkeep/laws.FnArgon2" =some 4 by kernel_rfl).symm.trans c) |>.symm;obtain rfl:fn=Tryz.f4:=(dV (Tryz.func4.symm.trans d)).symm;exact⟨by kernel_rfl,fun j t a=>by
   rw[Tryz.params4]at a;have h3:t=3∨t=22∨t=24:=by
    rcases j with _|_|_|_|j
    ·left;simpa using a.symm
    ·right;left;simpa using a.symm
    ·right;left;simpa using a.symm
    ·right;right;simpa using a.symm
    ·simp at a
   rcases h3 with rfl|rfl|rfl
   ·exact(show Tryz.prog.wantsStandIn 3=false by kernel_rfl)
   ·exact(show Tryz.prog.wantsStandIn 22=false by kernel_rfl)
   ·exact(show Tryz.prog.wantsStandIn 24=false by kernel_rfl)⟩
 have e:=Claim7.tied_new_at .later [.sentinel,.sentinel,.data,.data] true (Claim7.new_of_sixth holds (true, "a9dc6c6dc0367eec5be6d26692a05c32b57fda6e9593edd78de80ae44127e478") false rfl ⟨rfl,rfl⟩ (by kernel_rfl) (by kernel_rfl) b) (by kernel_rfl);exact⟨e,(fun _ h=>by cases h),fnArgon2_row_tie,(fun h=>by cases h),by kernel_rfl⟩
end
end Go.Proofs.YtcminalaicidiaaGreatDoor
end

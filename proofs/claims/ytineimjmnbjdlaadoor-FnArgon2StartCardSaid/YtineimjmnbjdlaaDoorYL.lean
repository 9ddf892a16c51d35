/- An interpreter of the model's code over abstract values, proved sound, and a walk in company by it: part of the proof of FnArgon2Start. No condition. -/
import Derived.Test.YtineimjmnbjdlaaDoorYK
set_option linter.unusedVariables false
set_option linter.unusedSectionVars false
set_option linter.unusedSimpArgs false
namespace Go.Proofs.YtineimjmnbjdlaaDoor
section
open Go Go.Eng Conc Conc.Lib RowKit
open Go.ConcX (stA smA OfWg WgAt wgBlock KK rd wr mk RCa RCd KCa DC0)
open Go.ConcX.Gen
variable [RowAddr]
theorem exact_inv [Co] {β:Map} {u v:Value} (h:VRel β (.atom (.exact u)) v):v = u:=by
 cases h;rfl
theorem put_same {a:Act} {d:Nat} {v:Value} (h:d < a.tmps.size):(a.put (some d) v).eval (.tmp d) = v:=by
 simp [Act.put,Act.eval,Array.getD_eq_getD_getElem?,h]
theorem mem_inv [Co] {β:Map} {X:Vec 64} {vs:List Value} (h:LRel β (Eng.Data.b64 X).list vs):vs = (memA X).toList:=by
 obtain ⟨h1,h2⟩:=h
 have hl:X.l.length = vs.length:=by rw [← h1];simp [Data.list]
 apply List.ext_getElem?
 intro i
 rcases Nat.lt_or_ge i vs.length with hi | hi
 ·have hx:(X.l.map AV.w64)[i]? = some (.w64 (X.l[i]'(by omega))):=by simp [show i < X.l.length by omega]
  have:=(h2 i _ _ hx (List.getElem?_eq_getElem hi)).num_inv
  rw [List.getElem?_eq_getElem hi,this]
  show _ = (X.l.map fun x=>Value.int .u64 (x.toNat:Int))[i]?
  simp [show i < X.l.length by omega]
  rfl
 ·rw [List.getElem?_eq_none hi]
  show _ = (X.l.map fun x=>Value.int .u64 (x.toNat:Int))[i]?
  rw [List.getElem?_eq_none (by simpa [hl] using hi)]
section
variable {Sh:Go.Loc → Prop} {n0 Wg bB room:Nat} {Pay:World → Prop} {w3:World} {V:Vec 64}
def StandsK (Sh:Go.Loc → Prop) (n0 Wg:Nat) (w3 x:World):Prop:=KCa link.tWg Wg x ∧ Wg + 4 ≤ x.heap.size ∧ ∀ c,c < Wg → ¬ (coK Sh n0 Wg).mine c → x.heap[c]? = w3.heap[c]?
theorem midWay {s:Nat} (hs:s < 4) (hV:V.n = 1024) {a3:Act} (h7:n0 + 7 ≤ Wg) (h4:w3.heap.size = Wg + 4) (hSh:∀ a:Addr,Sh (.cell a) → a.block < Wg) (hk:KCa link.tWg Wg w3)
 (hF:@FRel _ (nv 46) (ntmpsIn Tryd.prog 46) (β46 n0 Wg bB room) (F46 s Wg) a3) (hH:@HRel _ (coK Sh n0 Wg) noGlob (β46 n0 Wg bB room) (H46 V) w3) :
 Eng.Way Tryd.prog false (RK link.tWg Wg) (DK Sh Wg (KeepB n0)) (fun g x=>AtDone Sh n0 Wg bB room (stepX s V) w3 g x ∧ StandsK Sh n0 Wg w3 x) (G ((baseD 46).at a3 [.code (seqTo (bodyIn Tryd.prog 46) ps46 tail46)]) [bot]) w3:=by
 have hg:=mid46 hs hV h7 (by omega) hF hH
 have hw:=@Way.of_goesJ Tryd.prog _ _ _ (coK Sh n0 Wg) (Wg + 1) (fun g w K h=>h) (fun c hc=>⟨by omega,fun k=>by have:=k.2;omega,fun o hs=>by have:=hSh _ hs;simp only at this;omega⟩) hg (by omega)
 refine Way.weakenI (StandsK Sh n0 Wg w3) (fun a b hI h=>rkRely h7 h) (fun a b h ⟨i1,i2,i3⟩=>⟨h.k i1,by rw [h.size];exact i2,fun c hc hm=>(h.block c (by omega)).trans (i3 c hc hm)⟩) (fun a b es h ⟨i1,i2,i3⟩=>?_) (fun a b es ⟨i1,i2,i3⟩ h=>guaDK h7 (by omega) h) hw ⟨hk,by omega,fun _ _ _=>rfl⟩
 letI:=coK Sh n0 Wg
 have hs:=h.size
 exact ⟨kca_of i1 (h.far Wg (by omega) fun m=>m.1 rfl),by omega,fun c hc hm=>(h.far c (by omega) hm).trans (i3 c hc hm)⟩
theorem tailWay (h7:n0 + 7 ≤ Wg) (h4:w3.heap.size = Wg + 4) (hSh:∀ a:Addr,Sh (.cell a) → a.block < Wg) (hz:w3.heap[Wg + 3]? = some z128o) (hbw:bB < n0)
 (hPay:∀ w w',Aside Wg w w' → Pay w → Pay w') (hPayC:∀ w w',Aside (Wg + 3) w w' → Pay w → Pay w') {g:Goroutine} {x:World} (h:AtDone Sh n0 Wg bB room V w3 g x) (hI:StandsK Sh n0 Wg w3 x) (hp:Pay x) :
 Eng.Way Tryd.prog false (RK link.tWg Wg) (DK Sh Wg (KeepB n0)) (KR0 Tryd.prog link.tWg Wg Pay (Wg + 4)) g x:=by
 letI:=coK Sh n0 Wg
 obtain ⟨a',β',rfl,hF,hH,e0,⟨_,_,_,hsz⟩,hold⟩:=h
 obtain ⟨i1,i2,i3⟩:=hI
 have hC:x.heap[Wg + 3]? = some z128o:=(hold _ (by omega) ⟨by omega,fun k=>by have:=(show _ ∧ Wg + 3 < n0 + 7 from k).2;omega,fun o hs=>by have:=hSh _ hs;simp only at this;omega⟩ (by omega) (by omega) (by omega)).trans hz
 have h3:a'.eval (.tmp 3) = bp Wg:=exact_inv (hF.val 3)
 have hts:a'.tmps.size = 153:=hF.size.trans (by kernel_rfl)
 have hd:a'.defers = []:=hF.defers
 show Eng.Way Tryd.prog false _ _ _ (G ((baseD 46).at a' [.code (.region 31 ops31 false)]) [bot]) x
 refine Way.ctlK rfl (fun _=>stepG_region) ?_
 rw [range31]
 refine .one rfl fun x₁ h₁=>?_
 have s0:=stepG_value (P:=Tryd.prog) (main:=false) (b:=baseD 46) (a:=a') (k:=[]) (cs:=[bot]) (rest:=[1]) oT_get.1 (want _).2.2.2.1 (by simp [baseD]) (runQ_ok _ (oT0_run a'.eval x₁)).1
 rw [oT_dst.1,h3] at s0
 have sz1:=h₁.size
 refine ⟨_,_,_,s0,guaDK h7 (by omega) (gua_of (oT0_run a'.eval x₁) (Far.refl _) 46),?_⟩
 refine .one rfl fun x₂ h₂=>?_
 have sz2:=h₂.size
 have e5:(a'.put (some 151) (bp Wg)).eval (.tmp 151) = bp Wg:=put_same (by omega)
 have r1:=oT1_run (a'.put (some 151) (bp Wg)).eval x₂ rfl
 rw [e5] at r1
 have s1:=stepG_enter (P:=Tryd.prog) (main:=false) (b:=baseD 46) (a:=a'.put (some 151) (bp Wg)) (k:=[]) (cs:=[bot]) (rest:=[]) oT_get.2 (want _).2.2.2.2 (by simp [baseD]) (runQ_ok _ r1).1
 refine ⟨_,_,_,s1,guaDK h7 (by omega) (gua_of r1 (Far.refl _) 46),?_⟩
 have hb:Tryd.f50.body = some (body_done link):=by kernel_rfl
 have hn:Tryd.f50.ntmps = 4:=by kernel_rfl
 have hen:Frame.enter Tryd.prog 50 #[bp Wg] .normal = (base link.done).at ⟨#[.pointer (some ⟨Wg,0,none⟩),undef,undef,undef],[]⟩ [.code (body_done link)]:=by
  rw [enter_at _ Tryd.func50 hb,hn]
  rfl
 rw [hen]
 have hA:Aside Wg x x₂:=⟨h₂.tape.trans h₁.tape,h₂.os.trans h₁.os,h₂.output.trans h₁.output,h₂.size.trans h₁.size,fun c hc=>(h₂.block c hc).trans (h₁.block c hc)⟩
 have hT:QuitsD Tryd.prog 4 0 (G ((baseD 46).at ((a'.put (some 151) (bp Wg)).put ((ops31[1]?).bind (·.dst)) (.tuple #[])) (.inRegion ops31 [] :: [])) [bot]):=by
  obtain ⟨T,D⟩:=a'
  have hd:D = []:=hd
  subst hd
  have e:(ops31[1]?).bind (·.dst) = some 152:=by rw [oT_get.2];exact oT_dst.2
  rw [e]
  exact quits46 _ _
 exact doneWay (Sh:=Sh) (Wg:=Wg) (Keep:=KeepB n0) (Pay:=Pay) (Low:=Wg + 4) (b₀:=baseD 46) (a₀:=a'.put (some 151) (bp Wg)) (ops₀:=ops31) (i₀:=1) (rest₀:=[]) (k₀:=[]) (cs:=[bot]) (C:=Wg + 3) wgLib (by omega) (by omega) (by omega) (fun k=>by have:=(show _ ∧ Wg + 3 < n0 + 7 from k).2;omega) (fun a ha hs=>by have:=hSh _ hs;omega) hPay hPayC hT x₂ (h₂.k (h₁.k i1)) (arr:=⟨List.replicate 128 (.int .u64 0)⟩) (ety:=98) (by rw [hA.block _ (by omega)];exact hC) (hPay _ _ hA hp)
theorem worker_ok {m0:Machine} {w0:World} {bB:Nat} {ety:TypeId} {X:Nat → Obj → Prop} {room cp:Nat} (hcp:8 ≤ cp) (hroom:cp * 128 ≤ room) {s:Nat} (hs:s < 4) {V:Vec 64} (hV:V.n = 1024) (h0:∀ o,X s o → memO room V o) (h1:∀ o,memO room (stepX s V) o → X (s + 1) o) (hb:bB < w0.heap.size) (hbn:¬ Born Tryd.prog m0 36 bB)
 (hg:GlobIn m0 w0 bB):WorkerOk m0 w0 (some (at' bB 0)) 8 cp 2 bB ety X s:=by
 intro Sh w1 hQ hsh hks
 have h7:=hQ.size
 obtain ⟨n0,hn0⟩:∃ n0,n0 = w0.heap.size:=⟨_,rfl⟩
 obtain ⟨Wg,hWg⟩:∃ Wg,Wg = w1.heap.size:=⟨_,rfl⟩
 rw [← hn0,← hWg] at h7
 rw [← hn0] at hb
 have hSh:∀ a:Addr,Sh (.cell a) → a.block < Wg:=fun a hs=>by obtain ⟨a',e,h,_⟩:=hsh _ hs;cases e;omega
 have hbo:∀ c,¬ Born Tryd.prog m0 36 c → ∀ o,¬ Sh (.cell ⟨c,o,none⟩):=fun c hc o hs=>by obtain ⟨a',e,_,h⟩:=hsh _ hs;cases e;exact hc h
 refine ⟨w1.heap.size + 4,by omega,fun w hw=>?_⟩
 obtain ⟨hwg,hsz,hold⟩:=goAt_heap hw
 obtain ⟨hos,htape,hout⟩:=goAt_os hw
 rw [← hWg] at hwg hsz hold ⊢
 rw [← hn0]
 have hPA:∀ C,n0 + 7 ≤ C → ∀ w w',Aside C w w' → (QS w0 (some (at' bB 0)) 8 cp 2 bB ety X (s + 1) w ∧ Wg < w.heap.size) → (QS w0 (some (at' bB 0)) 8 cp 2 bB ety X (s + 1) w' ∧ Wg < w'.heap.size):=fun C hC w w' r h=>⟨h.1.aside (by omega) (by omega) r,by rw [r.size];exact h.2⟩
 refine head46 h7 hsz (.inl hwg) fun w3 a3 ha3 h4 hold3 hk3 hos3 hz3=>?_
 have hst:∀ c,c < Wg → w3.heap[c]? = w1.heap[c]?:=fun c hc=>(hold3 c hc).trans (hold c hc)
 have hH:@HRel _ (coK Sh n0 Wg) noGlob (β46 n0 Wg bB room) (H46 V) w3:=by
  refine start_rel h7 hb hV hcp hroom (CellsAt.of (let ⟨o,x,y⟩:=hQ.cont;⟨o,h0 o x,y⟩) (hst bB (by omega))) (hbo _ hbn) (fun c hc o hs=>by have:=hSh _ hs;simp only at this;omega) (fun i o hi=>?_) hz3 fun g l hgl=>?_
  ·have hi7:i < 7:=(List.getElem?_eq_some_iff.1 hi).1
   rw [hst _ (by omega),hn0];exact hQ.boxes i o hi
  ·obtain ⟨g1,g2,g3,g4⟩:=hg g l hgl
   refine ⟨by omega,g2,hbo _ g3,fun i x hx=>?_⟩
   obtain ⟨v,hv,hr⟩:=g4 i x hx
   refine ⟨v,?_,hr⟩
   rw [← hv]
   obtain ⟨b0,hb0⟩:=gAt_eq g
   rw [hb0]
   unfold World.cell? at'
   simp only
   rw [hst _ (by omega),hQ.old _ g1 g2]
 have hF:@FRel _ (nv 46) (ntmpsIn Tryd.prog 46) (β46 n0 Wg bB room) (F46 s Wg) a3:=by
  letI:=coK Sh n0 Wg
  have hβ:∀ b,b < 11 → β46 n0 Wg bB room b = some ⟨loc46 n0 Wg bB b,0,room46 room b⟩:=fun b hb=>by unfold β46;rw [if_pos hb]
  have hp:∀ b,b < 11 → VRel (β46 n0 Wg bB room) (.ref (.ptr b (.c 0))) (bp (loc46 n0 Wg bB b)):=fun b hb=>.ptr b (.c 0) _ (hβ b hb)
  have hl:LRel (β46 n0 Wg bB room) [.num (.int .u32 (.c 0)),.num (.int .u32 (.c s)),.num (.int .u32 (.c 0)),.exact (bp Wg),.ref (.ptr 5 (.c 0)),.ref (.ptr 3 (.c 0)),.ref (.ptr 2 (.c 0)),.ref (.ptr 6 (.c 0)),.ref (.ptr 7 (.c 0)),.ref (.ptr 1 (.c 0)),.ref (.ptr 4 (.c 0))]
   [.int .u32 0,.int .u32 s,.int .u32 0,bp Wg,bp (n0 + 4),bp (n0 + 2),bp (n0 + 1),bp (n0 + 5),bp (n0 + 6),bp n0,bp (n0 + 3)]:=
   .cons (.num (.int .u32 (.c 0))) (.cons (.num (.int .u32 (.c s))) (.cons (.num (.int .u32 (.c 0))) (.cons (.exact _) (.cons (hp 5 (by decide)) (.cons (hp 3 (by decide)) (.cons (hp 2 (by decide)) (.cons (hp 6 (by decide)) (.cons (hp 7 (by decide)) (.cons (hp 1 (by decide)) (.cons (hp 4 (by decide)) (.nil _)))))))))))
  have hnt:ntmpsIn Tryd.prog 46 = 153:=by kernel_rfl
  have hnv:nv 46 = 23:=by kernel_rfl
  have f0:=frel_start (nv:=nv 46) (nt:=ntmpsIn Tryd.prog 46) hl (by rw [hnt];show 11 ≤ 153;omega)
  have f3:=((f0.put (d:=some 15) (fun x hx=>by injection hx with hx;omega) (hp 8 (by decide))).put (d:=some 16) (fun x hx=>by injection hx with hx;omega) (hp 9 (by decide))).put (d:=some 17) (fun x hx=>by injection hx with hx;omega) (hp 10 (by decide))
  rw [ha3]
  rw [hnv,hnt] at f3 ⊢
  exact f3
 refine Eng.Way.trans RK.refl RK.tr (midWay hs hV h7 h4 hSh hk3 hF hH) fun g x ⟨hA,hI⟩=>?_
 refine tailWay (n0:=n0) (bB:=bB) (room:=room) (V:=stepX s V) h7 h4 hSh (hz3 2 (by decide)) hb (hPA Wg h7) (hPA (Wg + 3) (by omega)) hA hI ?_
 letI:=coK Sh n0 Wg
 obtain ⟨a',β',rfl,hF',hH',e0,⟨o1,o2,o3,hsz'⟩,hold'⟩:=hA
 obtain ⟨i1,i2,i3⟩:=hI
 refine ⟨⟨?_,?_,?_,by omega,fun i o hi=>?_,fun c hc hn=>?_,?_⟩,by omega⟩
 ·rw [o1,hos3.1,hos,hQ.os]
 ·rw [o2,hos3.2.1,htape,hQ.tape]
 ·rw [o3,hos3.2.2,hout,hQ.output]
 ·have hi7:i < 7:=(List.getElem?_eq_some_iff.1 hi).1
  rw [← hn0,i3 _ (by omega) (fun m=>m.2.1 ⟨by omega,by omega⟩),hst _ (by omega),hn0];exact hQ.boxes i o hi
 ·rw [← hQ.old c hc hn,← hst c (by omega)]
  by_cases hm:(coK Sh n0 Wg).mine c
  ·exact hold' c (by omega) hm hn (by omega) (by omega)
  ·exact i3 c (by omega) hm
 ·have hb0:=hH'.blk 0 ⟨.b64 (stepX s V),.own⟩ rfl (own_alive rfl)
  have hn:(stepX s V).n = 1024:=(stepX_n s V).trans hV
  rcases hb0 with ⟨L,hL,hbr⟩ | ⟨hl,_⟩
  ·rw [e0] at hL;injection hL with hL;subst hL
   obtain ⟨_,_,vs,t,fz,g1,g2,g3,g4,g5⟩:=hbr
   exact ⟨_,h1 _ ⟨vs,t,fz,rfl,g2,g3,mem_inv g5⟩,g1⟩
  ·have hl:(stepX s V).n = 0:=hl
   omega
end
end
section
open Go Go.Eng Conc Conc.Lib RowKit
variable [RowAddr]
def memS (X:Vec 64):Nat → Vec 64
 | 0=>X
 | s + 1=>stepX s (memS X s)
theorem memS_n [Co] [SeatCo] (X:Vec 64):∀ s,(memS X s).n = X.n
 | 0=>rfl
 | s + 1=>(stepX_n s _).trans (memS_n X s)
def fillW (X:Vec 64):Vec 64:=memS X 4
structure ct36D where
 X:Vec 64
def ct36_rd (a:List AV) (K:List Blk):Option ct36D:=
 match a with
 | [(.ref (.sm 0 (.c 8) 128)),(.num (.int .u32 (.c 1))),(.num (.int .u32 (.c 8))),(.num (.int .u32 (.c 1))),(.num (.int .i64 (.c 2)))]=>
  match K with
  | [⟨(.b64 X),.own⟩]=>some ⟨X⟩
  | _=>none
 | _=>none
def ct36:Ct ct36D where
 pat:=[(.sm 0 (.c 8) 128),(.int .u32 (.c 1)),(.int .u32 (.c 8)),(.int .u32 (.c 1)),(.int .i64 (.c 2))]
 patH:=[⟨(.b64 (Vec.zero 64 0)),.own⟩]
 read:=ct36_rd
 args:=fun ⟨_⟩=>[(.sm 0 (.c 8) 128),(.int .u32 (.c 1)),(.int .u32 (.c 8)),(.int .u32 (.c 1)),(.int .i64 (.c 2))]
 heap:=fun ⟨X⟩=>[⟨(.b64 X),.own⟩]
 out:=fun ⟨X⟩=>[⟨(.b64 (fillW X)),.own⟩]
 val:=fun ⟨_⟩=>(.tup [])
 good:=fun ⟨X⟩=>decide (X.n = 1024)
set_option maxRecDepth 100000 in
theorem ct36_read (a:List AV) (K:List Blk) (d:ct36D) (h:ct36.read a K = some d):a = ct36.args d ∧ K = ct36.heap d:=by
 replace h:ct36_rd a K = some d:=h
 unfold ct36_rd at h
 split at h
 case h_2=>cases h
 split at h
 case h_2=>cases h
 injection h with h;subst h
 exact ⟨rfl,rfl⟩
instance seatM (m0:Machine):@SeatCo (coMain Tryd.prog m0 36):=@SeatCo.mk (coMain Tryd.prog m0 36) fun f h e=>by
 subst e
 have:scope 36 = false:=by kernel_rfl
 rw [this] at h;cases h
def numB (x:AV):Bool:=match x with | .num _=>true | _=>false
theorem glob_nums:tabP.all numB = true ∧ tabIv.all numB = true ∧ Nat.blt 0 tabP.length = true ∧ Nat.blt 0 tabIv.length = true:=⟨by kernel_rfl,by kernel_rfl,by kernel_rfl,by kernel_rfl⟩
theorem glob_num {g:Nat} {l:List AV} (h:noGlob g = some l):(∀ x ∈ l,∃ n,x = .num n) ∧ 0 < l.length:=by
 have key:∀ x,numB x = true → ∃ n,x = .num n:=fun x hx=>by
  unfold numB at hx
  split at hx
  ·exact ⟨_,rfl⟩
  ·cases hx
 unfold noGlob at h
 split at h
 ·injection h with h;subst h
  exact ⟨fun x hx=>key x (List.all_eq_true.1 glob_nums.1 x hx),by simpa using glob_nums.2.2.1⟩
 ·injection h with h;subst h
  exact ⟨fun x hx=>key x (List.all_eq_true.1 glob_nums.2.1 x hx),by simpa using glob_nums.2.2.2⟩
 ·cases h
variable {m0:Machine}
theorem globIn {β:Map} {H:List Blk} {w:World} {bB:Nat} (hH:@HRel _ (coMain Tryd.prog m0 36) noGlob β H w) (hap:∀ g l,noGlob g = some l → gIx g ≠ bB):GlobIn m0 w bB:=by
 letI:=coMain Tryd.prog m0 36
 intro g l hg
 obtain ⟨h1,h2⟩:=hH.glob g l hg
 obtain ⟨n1,n2⟩:=glob_num hg
 refine ⟨h1,hap g l hg,?_,fun i x hx=>?_⟩
 ·obtain ⟨v,_,_,hm⟩:=h2 0 _ (List.getElem?_eq_getElem n2)
  obtain ⟨b0,hb0⟩:=gAt_eq g
  rw [hb0] at hm
  rcases hm.2 with h | ⟨_,h⟩
  ·exact h
  ·exact h.elim
 ·obtain ⟨v,hv,hr,_⟩:=h2 i x hx
  obtain ⟨n,rfl⟩:=n1 x (List.mem_of_getElem? hx)
  exact ⟨v,hv,by rw [hr.num_inv];exact .num n⟩
set_option maxRecDepth 20000 in
theorem c36_ok:@SpecOk _ (coMain Tryd.prog m0 36) Tryd.prog noGlob 36 ct36.spec:=by
 letI:=coMain Tryd.prog m0 36
 refine ct36.sem ct36_read fun d hg β w vs hargs hH hdB=>?_
 obtain ⟨X⟩:=d
 have hX:X.n = 1024:=of_decide_eq_true hg
 obtain ⟨v0,r0,rfl,h0,t0⟩:=hargs.cons_inv
 obtain ⟨v1,r1,rfl,h1,t1⟩:=t0.cons_inv
 obtain ⟨v2,r2,rfl,h2,t2⟩:=t1.cons_inv
 obtain ⟨v3,r3,rfl,h3,t3⟩:=t2.cons_inv
 obtain ⟨v4,r4,rfl,h4,t4⟩:=t3.cons_inv
 obtain rfl:=t4.nil_inv
 obtain rfl:=h1.num_inv
 obtain rfl:=h2.num_inv
 obtain rfl:=h3.num_inv
 obtain rfl:=h4.num_inv
 obtain ⟨a,cp,rfl,hcp,hor⟩:=h0.sm_inv
 have hcp:8 ≤ cp:=hcp
 rcases hor with hor | ⟨L,hL,rfl,hroom⟩
 ·omega
 rcases hH.blk 0 ⟨.b64 X,.own⟩ rfl (own_alive rfl) with ⟨L',hL',hbr⟩ | ⟨hl,_⟩
 case inr=>have hl:X.n = 0:=hl;omega
 rw [hL] at hL';injection hL' with hL';subst hL'
 obtain ⟨hbase,hmine,us,t,fz,g1,g2,g3,g4,g5⟩:=hbr
 obtain ⟨c,base,room⟩:=L
 have hbase:base = 0:=hbase
 subst hbase
 refine ⟨⟨Tryd.f36,Tryd.func36,by kernel_rfl,by kernel_rfl⟩,?_⟩
 have hap:∀ g l,noGlob g = some l → gIx g ≠ c:=fun g l hgl=>hH.apart 0 _ _ rfl rfl hL g l hgl
 have hlt:c < w.heap.size:=(Array.getElem?_eq_some_iff.1 g1).1
 have hb:=blocks_calls (m0:=m0) (aB:=some (at' c 0)) (lB:=8) (cB:=cp) (m:=2) (ety:=0) (w0:=w) (bB:=c) (X:=fun s o=>memO room (memS X s) o) hmine hlt ⟨_,⟨us,t,fz,rfl,g2,g3,mem_inv g5⟩,g1⟩
  (fun w₁ hr s hs=>worker_ok hcp hroom hs (V:=memS X s) ((memS_n X s).trans hX) (fun o h=>h) (fun o h=>h) (Nat.lt_of_lt_of_le hlt hr.size) hmine (globIn (hH.rely hr) hap))
 refine hb.mono ?_
 rintro e w' ⟨rfl,w₁,hr,hQ⟩
 have hst:∀ b,b < w.heap.size → b ≠ c → Co.mine b → w'.heap[b]? = w.heap[b]?:=fun b hb hn hm=>(hQ.old b (Nat.lt_of_lt_of_le hb hr.size) hn).trans (hr.mine b hb hm)
 have hsz:w.heap.size ≤ w'.heap.size:=by have:=hQ.size;have:=hr.size;omega
 obtain ⟨o,⟨us',t',fz',rfl,q2,q3,q4⟩,q1⟩:=hQ.cont
 have hn4:(memS X 4).n = 1024:=(memS_n X 4).trans hX
 have hgl:=fun g l hgl=>(globIn (hH.rely hr) hap) g l hgl
 have hout:ct36.out ⟨X⟩ = [⟨.b64 (fillW X),.own⟩]:=rfl
 have hheap:ct36.heap ⟨X⟩ = [⟨.b64 X,.own⟩]:=rfl
 have hval:ct36.val ⟨X⟩ = .obj .tup []:=rfl
 rw [hout,hheap,hval]
 rw [hheap] at hH hdB
 have hfe:fillW X = memS X 4:=rfl
 rw [hfe]
 generalize memS X 4 = Y at q4 hn4
 refine ⟨.tuple #[],β,rfl,.tup [] [] rfl (fun i x v h=>by simp at h),⟨fun b k hk ha=>?_,fun b b' k k' L L' hne hk hk' ho ha hL hL'=>?_,hH.dom,fun g l hg=>?_,fun b k L hk ho hL=>?_⟩,⟨Map.le_refl _,Nat.le_refl 1,hQ.os.trans hr.os,hQ.tape.trans hr.tape,hQ.output.trans hr.output,hsz,fun b hb ho=>⟨fun hm=>hst b hb (fun e=>ho ⟨0,_,_,rfl,rfl,hL,e.symm⟩) hm,fun o h=>h.elim⟩,fun b hb ho=>?_,fun _ _=>rfl⟩⟩
 ·match b,hk with
  | 0,hk=>
   have hk:some (Blk.mk (.b64 Y) .own) = some k:=hk
   injection hk with hk;subst hk
   refine .inl ⟨_,hL,rfl,hmine,us',t',fz',q1,q2,q3,?_,?_⟩
   ·have:us'.length = room:=q3
    have e1:=congrArg List.length q4
    have e2:(memA Y).toList.length = Y.n:=by rw [Array.length_toList,memA_size]
    rw [List.length_take,e2] at e1
    show Y.n ≤ room
    omega
   ·have e:us'.take (Eng.Data.b64 Y).len = (memA Y).toList:=q4
    rw [e]
    have e2:(memA Y).toList.length = Y.n:=by rw [Array.length_toList,memA_size]
    refine ⟨by rw [e2];simp [Data.list,Vec.h],fun i x v hx hv=>?_⟩
    have hx':(Y.l.map AV.w64)[i]? = some x:=hx
    have hv':(Y.l.map fun x=>Value.int .u64 (x.toNat:Int))[i]? = some v:=hv
    rw [List.getElem?_map,Option.map_eq_some_iff] at hx' hv'
    obtain ⟨a,ha,rfl⟩:=hx'
    obtain ⟨a',ha',rfl⟩:=hv'
    rw [ha] at ha';injection ha' with ha';subst ha'
    exact .num (.w64 a)
  | b + 1,hk=>exact absurd hk (by simp)
 ·match b,b',hk,hk',hne with
  | 0,0,_,_,hne=>exact absurd rfl hne
  | b + 1,_,hk,_,_=>exact absurd hk (by simp)
  | 0,b' + 1,_,hk',_=>exact absurd hk' (by simp)
 ·obtain ⟨g1,g2,g3,g4⟩:=hgl g l hg
  refine ⟨Nat.lt_of_lt_of_le (hH.glob g l hg).1 hsz,fun i x hx=>?_⟩
  obtain ⟨v,hv,hr'⟩:=g4 i x hx
  obtain ⟨b0,hb0⟩:=gAt_eq g
  refine ⟨v,?_,VRel.of_n hr',?_⟩
  ·rw [← hv,hb0]
   unfold World.cell? at'
   simp only
   rw [hQ.old _ g1 g2]
  ·rw [hb0];exact ⟨rfl,.inl g3⟩
 ·match b,hk with
  | 0,hk=>exact hH.apart 0 _ _ rfl rfl hL
  | b + 1,hk=>exact absurd hk (by simp)
 ·obtain ⟨b',k,L,hk,ho,hL',hc⟩:=ho
  match b',hk with
  | 0,hk=>exact ⟨0,_,L,rfl,rfl,hL',hc⟩
  | b' + 1,hk=>exact absurd hk (by simp)
end
section
open Go.Eng
variable [RowAddr] [Co] [SeatCo]
abbrev BvT:=Vec 8 → Vec 8 → Nat → Nat → Nat → Nat → BitVec 32 → BitVec 32 → BitVec 32 → BitVec 32 → Int → Vec 8
def bvN:BvT:=fun a b oa na ob nb t m p k mo=>begV (begN a b oa na ob nb t m p k mo)
def c29P (bv:BvT):Ct c29nD:={ c29n with val:=fun ⟨a,b,oa,na,ob,nb,t,m,p,k,mo⟩=>(.agg (c8v (bv a b oa na ob nb t m p k mo) 72)) }
theorem c29P_eq:c29P bvN = c29n:=rfl
def c35P (sv:Vec 8 → Vec 64):Ct c35D:={ c35 with out:=fun ⟨h⟩=>[⟨(.b8 (hw1 h)),.own⟩,⟨(.b64 (sv h)),.own⟩] }
theorem c35P_eq:c35P startV = c35:=rfl
def c36P (fw:Vec 64 → Vec 64):Ct ct36D:={ ct36 with out:=fun ⟨X⟩=>[⟨(.b64 (fw X)),.own⟩] }
theorem c36P_eq:c36P fillW = ct36:=rfl
def c37P (kv:Vec 64 → Vec 8):Ct c37D:={ c37 with out:=fun ⟨X⟩=>[⟨(.b64 X),.own⟩,⟨(.b8 (kv X)),.own⟩] }
theorem c37P_eq:c37P keyV = c37:=rfl
def specs30 (bv:BvT) (sv:Vec 8 → Vec 64) (fw:Vec 64 → Vec 64) (kv:Vec 64 → Vec 8):FuncId → Option Eng.Spec
 | 29=>some (c29P bv).spec
 | 35=>some (c35P sv).spec
 | 36=>some (c36P fw).spec
 | 37=>some (c37P kv).spec
 | _=>none
theorem specs30_ok (h36:SpecOk Tryd.prog noGlob 36 ct36.spec):∀ f sp,specs30 bvN startV fillW keyV f = some sp → SpecOk Tryd.prog noGlob f sp:=by
 intro f sp h
 unfold specs30 at h
 split at h
 ·injection h with h;subst h;rw [c29P_eq];exact c29n_ok
 ·injection h with h;subst h;rw [c35P_eq];exact c35_ok
 ·injection h with h;subst h;rw [c36P_eq];exact h36
 ·injection h with h;subst h;rw [c37P_eq];exact c37_ok
 ·cases h
set_option maxRecDepth 20000 in
def row72 (x:Vec 8):Vec 8:=Vec.of [x.l.getD 0 0#8,x.l.getD 1 0#8,x.l.getD 2 0#8,x.l.getD 3 0#8,x.l.getD 4 0#8,x.l.getD 5 0#8,x.l.getD 6 0#8,x.l.getD 7 0#8,x.l.getD 8 0#8,x.l.getD 9 0#8,x.l.getD 10 0#8,x.l.getD 11 0#8,x.l.getD 12 0#8,x.l.getD 13 0#8,x.l.getD 14 0#8,x.l.getD 15 0#8,x.l.getD 16 0#8,x.l.getD 17 0#8,x.l.getD 18 0#8,x.l.getD 19 0#8,x.l.getD 20 0#8,x.l.getD 21 0#8,x.l.getD 22 0#8,x.l.getD 23 0#8,x.l.getD 24 0#8,x.l.getD 25 0#8,x.l.getD 26 0#8,x.l.getD 27 0#8,x.l.getD 28 0#8,x.l.getD 29 0#8,x.l.getD 30 0#8,x.l.getD 31 0#8,x.l.getD 32 0#8,x.l.getD 33 0#8,x.l.getD 34 0#8,x.l.getD 35 0#8,x.l.getD 36 0#8,x.l.getD 37 0#8,x.l.getD 38 0#8,x.l.getD 39 0#8,x.l.getD 40 0#8,x.l.getD 41 0#8,x.l.getD 42 0#8,x.l.getD 43 0#8,x.l.getD 44 0#8,x.l.getD 45 0#8,x.l.getD 46 0#8,x.l.getD 47 0#8,x.l.getD 48 0#8,x.l.getD 49 0#8,x.l.getD 50 0#8,x.l.getD 51 0#8,x.l.getD 52 0#8,x.l.getD 53 0#8,x.l.getD 54 0#8,x.l.getD 55 0#8,x.l.getD 56 0#8,x.l.getD 57 0#8,x.l.getD 58 0#8,x.l.getD 59 0#8,x.l.getD 60 0#8,x.l.getD 61 0#8,x.l.getD 62 0#8,x.l.getD 63 0#8,x.l.getD 64 0#8,x.l.getD 65 0#8,x.l.getD 66 0#8,x.l.getD 67 0#8,x.l.getD 68 0#8,x.l.getD 69 0#8,x.l.getD 70 0#8,x.l.getD 71 0#8]
def argK (bv:BvT) (sv:Vec 8 → Vec 64) (fw:Vec 64 → Vec 64) (kv:Vec 64 → Vec 8) (a b:Vec 8) (oa na ob nb:Nat):Vec 8:=kv (fw (sv (row72 (bv a b oa na ob nb 1#32 8#32 1#32 4#32 2))))
structure c30D where
 a:Vec 8
 b:Vec 8
 oa:Nat
 na:Nat
 ob:Nat
 nb:Nat
def c30_rd (a:List AV) (K:List Blk):Option c30D:=
 match a with
 | [(.num (.int .i64 (.c 2))),(.ref (.sl 0 (.s oa) (.s na) none)),(.ref (.sl 1 (.s ob) (.s nb) none)),(.atom .nils),(.atom .nils),(.num (.int .u32 (.c 1))),(.num (.int .u32 (.c 8))),(.num (.int .u8 (.c 1))),(.num (.int .u32 (.c 4)))]=>
  match K with
  | [⟨(.b8 a),.ro⟩,⟨(.b8 b),.ro⟩]=>some ⟨a,b,oa,na,ob,nb⟩
  | _=>none
 | _=>none
def c30:Ct c30D where
 pat:=[(.int .i64 (.c 2)),(.sl 0 (.s 0) (.s 0) none),(.sl 1 (.s 0) (.s 0) none),(.atom .nils),(.atom .nils),(.int .u32 (.c 1)),(.int .u32 (.c 8)),(.int .u8 (.c 1)),(.int .u32 (.c 4))]
 patH:=[⟨(.b8 (Vec.zero 8 0)),.ro⟩,⟨(.b8 (Vec.zero 8 0)),.ro⟩]
 read:=c30_rd
 args:=fun ⟨_,_,oa,na,ob,nb⟩=>[(.int .i64 (.c 2)),(.sl 0 (.s oa) (.s na) none),(.sl 1 (.s ob) (.s nb) none),(.atom .nils),(.atom .nils),(.int .u32 (.c 1)),(.int .u32 (.c 8)),(.int .u8 (.c 1)),(.int .u32 (.c 4))]
 heap:=fun ⟨a,b,_,_,_,_⟩=>[⟨(.b8 a),.ro⟩,⟨(.b8 b),.ro⟩]
 out:=fun ⟨a,b,oa,na,ob,nb⟩=>[⟨(.b8 a),.ro⟩,⟨(.b8 b),.ro⟩,⟨(.b8 (argK bvN startV fillW keyV a b oa na ob nb)),.own⟩]
 val:=fun ⟨_,_,_,_,_,_⟩=>(.sl 2 (.c 0) (.c 4) (some (.c 4)))
 good:=fun ⟨a,b,oa,na,ob,nb⟩=>decide (oa + na ≤ a.n ∧ na ≤ 1000000 ∧ ob + nb ≤ b.n ∧ nb ≤ 1000000)
set_option maxRecDepth 100000 in
theorem c30_read (a:List AV) (K:List Blk) (d:c30D) (h:c30.read a K = some d):a = c30.args d ∧ K = c30.heap d:=by
 replace h:c30_rd a K = some d:=h
 unfold c30_rd at h
 split at h
 case h_2=>cases h
 split at h
 case h_2=>cases h
 injection h with h;subst h
 exact ⟨rfl,rfl⟩
theorem k30 (bv:BvT) (sv:Vec 8 → Vec 64) (fw:Vec 64 → Vec 64) (kv:Vec 64 → Vec 8) (a b:Vec 8) (oa na ob nb:Nat):endsAs (c30.heap ⟨a,b,oa,na,ob,nb⟩).length (some [0,1,4]) [⟨.b8 a,.ro⟩,⟨.b8 b,.ro⟩,⟨.b8 (argK bv sv fw kv a b oa na ob nb),.own⟩] (c30.val ⟨a,b,oa,na,ob,nb⟩) (goB (specs30 bv sv fw kv) noLoop 30 (c30.args ⟨a,b,oa,na,ob,nb⟩) ⟨c30.heap ⟨a,b,oa,na,ob,nb⟩,big,[],[]⟩) = some ([⟨.b8 a,.ro⟩,⟨.b8 b,.ro⟩,⟨.b8 (argK bv sv fw kv a b oa na ob nb),.own⟩],(c30.val ⟨a,b,oa,na,ob,nb⟩),[decide ((fw (sv (row72 (bv a b oa na ob nb 1#32 8#32 1#32 4#32 2)))).n = 1024),decide ((sv (row72 (bv a b oa na ob nb 1#32 8#32 1#32 4#32 2))).n = 1024),decide True,decide (oa + na ≤ a.n ∧ na ≤ 1000000 ∧ ob + nb ≤ b.n ∧ nb ≤ 1000000)]):=by kernel_rfl
end
section
open Go.Eng
variable [RowAddr] [Co] [SeatCo]
theorem kb0_it (h b:Vec 8) (X:Vec 64) (i:Int):∀ k,(iter kb0_next k ⟨h,b,X,i⟩).X.n = X.n
 | 0=>rfl
 | k + 1=>by
  rw [iter_succ]
  have h':=kb0_it h b X i k
  generalize iter kb0_next k ⟨h,b,X,i⟩ = d at h'
  obtain ⟨h1,b1,X',i'⟩:=d
  exact (show (setB X' b1 0 i').n = X'.n from rfl).trans h'
theorem kb1_it (h b:Vec 8) (X:Vec 64) (i:Int):∀ k,(iter kb1_next k ⟨h,b,X,i⟩).X.n = X.n
 | 0=>rfl
 | k + 1=>by
  rw [iter_succ]
  have h':=kb1_it h b X i k
  generalize iter kb1_next k ⟨h,b,X,i⟩ = d at h'
  obtain ⟨h1,b1,X',i'⟩:=d
  exact (show (setB X' b1 128 i').n = X'.n from rfl).trans h'
theorem y1024_n:Y1024.n = 1024:=List.length_replicate
theorem startV_n (h:Vec 8):(startV h).n = 1024:=by
 unfold startV mem1
 rw [kb1_it]
 unfold mem0
 rw [kb0_it,y1024_n]
theorem fillW_n (X:Vec 64):(fillW X).n = X.n:=memS_n X 4
theorem c30_ok (h36:SpecOk Tryd.prog noGlob 36 ct36.spec):SpecOk Tryd.prog noGlob 30 c30.spec:=by
 refine c30.ok (goB_ok (specs30_ok h36) (no_loops _)) c30_read ?_
 rintro ⟨a,b,oa,na,ob,nb⟩ hg
 have hg:oa + na ≤ a.n ∧ na ≤ 1000000 ∧ ob + nb ≤ b.n ∧ nb ≤ 1000000:=of_decide_eq_true hg
 refine ⟨[],some [0,1,4],_,k30 bvN startV fillW keyV a b oa na ob nb,?_⟩
 have h1:=startV_n (row72 (bvN a b oa na ob nb 1#32 8#32 1#32 4#32 2))
 have h2:=fillW_n (startV (row72 (bvN a b oa na ob nb 1#32 8#32 1#32 4#32 2)))
 exact all_true_cons (decide_eq_true (h2.trans h1)) (all_true_cons (decide_eq_true h1) (all_true_cons rfl (all_true_cons (decide_eq_true hg) all_true_nil)))
def keyOf (a b:Vec 8) (oa na ob nb:Nat):Vec 8:=argK bvN startV fillW keyV a b oa na ob nb
abbrev KvT:=Vec 8 → Vec 8 → Nat → Nat → Nat → Nat → Vec 8
def c30P (kf:KvT):Ct c30D:={ c30 with out:=fun ⟨a,b,oa,na,ob,nb⟩=>[⟨(.b8 a),.ro⟩,⟨(.b8 b),.ro⟩,⟨(.b8 (kf a b oa na ob nb)),.own⟩] }
theorem c30P_eq:c30P keyOf = c30:=rfl
def specs24 (kf:KvT):FuncId → Option Eng.Spec
 | 30=>some (c30P kf).spec
 | _=>none
theorem specs24_ok (h36:SpecOk Tryd.prog noGlob 36 ct36.spec):∀ f sp,specs24 keyOf f = some sp → SpecOk Tryd.prog noGlob f sp:=by
 intro f sp h
 unfold specs24 at h
 split at h
 ·injection h with h;subst h;rw [c30P_eq];exact c30_ok h36
 ·cases h
structure c24D where
 a:Vec 8
 b:Vec 8
 oa:Nat
 na:Nat
 ob:Nat
 nb:Nat
def c24_rd (a:List AV) (K:List Blk):Option c24D:=
 match a with
 | [(.ref (.sl 0 (.s oa) (.s na) none)),(.ref (.sl 1 (.s ob) (.s nb) none)),(.num (.int .u32 (.c 1))),(.num (.int .u32 (.c 8))),(.num (.int .u8 (.c 1))),(.num (.int .u32 (.c 4)))]=>
  match K with
  | [⟨(.b8 a),.ro⟩,⟨(.b8 b),.ro⟩]=>some ⟨a,b,oa,na,ob,nb⟩
  | _=>none
 | _=>none
def c24:Ct c24D where
 pat:=[(.sl 0 (.s 0) (.s 0) none),(.sl 1 (.s 0) (.s 0) none),(.int .u32 (.c 1)),(.int .u32 (.c 8)),(.int .u8 (.c 1)),(.int .u32 (.c 4))]
 patH:=[⟨(.b8 (Vec.zero 8 0)),.ro⟩,⟨(.b8 (Vec.zero 8 0)),.ro⟩]
 read:=c24_rd
 args:=fun ⟨_,_,oa,na,ob,nb⟩=>[(.sl 0 (.s oa) (.s na) none),(.sl 1 (.s ob) (.s nb) none),(.int .u32 (.c 1)),(.int .u32 (.c 8)),(.int .u8 (.c 1)),(.int .u32 (.c 4))]
 heap:=fun ⟨a,b,_,_,_,_⟩=>[⟨(.b8 a),.ro⟩,⟨(.b8 b),.ro⟩]
 out:=fun ⟨a,b,oa,na,ob,nb⟩=>[⟨(.b8 a),.ro⟩,⟨(.b8 b),.ro⟩,⟨(.b8 (keyOf a b oa na ob nb)),.own⟩]
 val:=fun ⟨_,_,_,_,_,_⟩=>(.sl 2 (.c 0) (.c 4) (some (.c 4)))
 good:=fun ⟨a,b,oa,na,ob,nb⟩=>decide (oa + na ≤ a.n ∧ na ≤ 1000000 ∧ ob + nb ≤ b.n ∧ nb ≤ 1000000)
set_option maxRecDepth 100000 in
theorem c24_read (a:List AV) (K:List Blk) (d:c24D) (h:c24.read a K = some d):a = c24.args d ∧ K = c24.heap d:=by
 replace h:c24_rd a K = some d:=h
 unfold c24_rd at h
 split at h
 case h_2=>cases h
 split at h
 case h_2=>cases h
 injection h with h;subst h
 exact ⟨rfl,rfl⟩
theorem k24 (kf:KvT) (a b:Vec 8) (oa na ob nb:Nat):endsAs (c24.heap ⟨a,b,oa,na,ob,nb⟩).length (some [0,1,2]) [⟨.b8 a,.ro⟩,⟨.b8 b,.ro⟩,⟨.b8 (kf a b oa na ob nb),.own⟩] (c24.val ⟨a,b,oa,na,ob,nb⟩) (goB (specs24 kf) noLoop 24 (c24.args ⟨a,b,oa,na,ob,nb⟩) ⟨c24.heap ⟨a,b,oa,na,ob,nb⟩,big,[],[]⟩) = some ([⟨.b8 a,.ro⟩,⟨.b8 b,.ro⟩,⟨.b8 (kf a b oa na ob nb),.own⟩],(c24.val ⟨a,b,oa,na,ob,nb⟩),[decide (oa + na ≤ a.n ∧ na ≤ 1000000 ∧ ob + nb ≤ b.n ∧ nb ≤ 1000000)]):=by kernel_rfl
theorem c24_ok (h36:SpecOk Tryd.prog noGlob 36 ct36.spec):SpecOk Tryd.prog noGlob 24 c24.spec:=by
 refine c24.ok (goB_ok (specs24_ok h36) (no_loops _)) c24_read ?_
 rintro ⟨a,b,oa,na,ob,nb⟩ hg
 have hg:oa + na ≤ a.n ∧ na ≤ 1000000 ∧ ob + nb ≤ b.n ∧ nb ≤ 1000000:=of_decide_eq_true hg
 refine ⟨[],some [0,1,2],_,k24 keyOf a b oa na ob nb,?_⟩
 exact all_true_cons (decide_eq_true hg) all_true_nil
end
section
open Go Go.Eng Conc Conc.Lib
noncomputable def q0:Array Oper:=opsOf (sub [false] (bodyIn Tryd.prog 15))
noncomputable def q1:Array Oper:=opsOf (sub [true,false] (bodyIn Tryd.prog 15))
noncomputable def q2:Array Oper:=opsOf (sub [true,true,false,false] (bodyIn Tryd.prog 15))
noncomputable def q4:Array Oper:=opsOf (sub [true,true,true,false] (bodyIn Tryd.prog 15))
noncomputable def x15:Code:=match sub [true,true,false,true] (bodyIn Tryd.prog 15) with | .cond _ x _=>x | c=>c
theorem body15:bodyIn Tryd.prog 15 = .seq (.region 0 q0 false) (.seq (.region 1 q1 false) (.seq (.seq (.region 2 q2 false) (.cond (.tmp 18) x15 .skip)) (.seq (.region 4 q4 false) .ret))):=by kernel_rfl
noncomputable def q22:Array Oper:=opsOf (sub [false] (bodyIn Tryd.prog 22))
noncomputable def x22:Code:=match sub [true] (bodyIn Tryd.prog 22) with | .cond _ x _=>x | c=>c
theorem body22:bodyIn Tryd.prog 22 = .seq (.region 0 q22 false) (.cond (.tmp 3) x22 .skip):=by kernel_rfl
noncomputable def oAt (q:Array Oper) (i:Nat):Oper:=q.getD i { dst:=none,op:=.move (.tmp 0),type:=0,pos:="",after:=#[],guard:=none }
theorem wanted_of {o:Oper} (h:o.guard = none) (y:Nat → Option Bool):Region.wanted o y = true:=by
 unfold Region.wanted;rw [h]
theorem q0_range:List.range q0.size = [0,1]:=by kernel_rfl
theorem q0_0:q0[0]? = some (oAt q0 0):=by kernel_rfl
theorem q0_0d:(oAt q0 0).dst = some 14:=by kernel_rfl
theorem q0_0g (y:Nat → Option Bool):Region.wanted (oAt q0 0) y = true:=wanted_of (by kernel_rfl) y
theorem q0_1:q0[1]? = some (oAt q0 1):=by kernel_rfl
theorem q0_1d:(oAt q0 1).dst = some 15:=by kernel_rfl
theorem q0_1g (y:Nat → Option Bool):Region.wanted (oAt q0 1) y = true:=wanted_of (by kernel_rfl) y
theorem q1_range:List.range q1.size = [0,1]:=by kernel_rfl
theorem q1_0:q1[0]? = some (oAt q1 0):=by kernel_rfl
theorem q1_0d:(oAt q1 0).dst = some 16:=by kernel_rfl
theorem q1_0g (y:Nat → Option Bool):Region.wanted (oAt q1 0) y = true:=wanted_of (by kernel_rfl) y
theorem q1_0o:(oAt q1 0).op = .makeFunc (.func 22) #[] #[.tmp 14,.tmp 15]:=by kernel_rfl
theorem q1_1:q1[1]? = some (oAt q1 1):=by kernel_rfl
theorem q1_1d:(oAt q1 1).dst = none:=by kernel_rfl
theorem q1_1g (y:Nat → Option Bool):Region.wanted (oAt q1 1) y = true:=wanted_of (by kernel_rfl) y
theorem q1_1o:(oAt q1 1).op = .defer { callee:=.value (.tmp 16),args:=#[],argTypes:=#[] }:=by kernel_rfl
theorem q2_range:List.range q2.size = [0,1]:=by kernel_rfl
theorem q2_0:q2[0]? = some (oAt q2 0):=by kernel_rfl
theorem q2_0d:(oAt q2 0).dst = some 17:=by kernel_rfl
theorem q2_0g (y:Nat → Option Bool):Region.wanted (oAt q2 0) y = true:=wanted_of (by kernel_rfl) y
theorem q2_0o:(oAt q2 0).op = .move (.tmp 0):=by kernel_rfl
theorem q2_1:q2[1]? = some (oAt q2 1):=by kernel_rfl
theorem q2_1d:(oAt q2 1).dst = some 18:=by kernel_rfl
theorem q2_1g (y:Nat → Option Bool):Region.wanted (oAt q2 1) y = true:=wanted_of (by kernel_rfl) y
theorem q4_range:List.range q4.size = [0,1,2,3,4,5,6,7,8,9,10,11,12]:=by kernel_rfl
theorem q4_0:q4[0]? = some (oAt q4 0):=by kernel_rfl
theorem q4_0d:(oAt q4 0).dst = some 30:=by kernel_rfl
theorem q4_0g (y:Nat → Option Bool):Region.wanted (oAt q4 0) y = true:=wanted_of (by kernel_rfl) y
theorem q4_0o:(oAt q4 0).op = .move (.tmp 1):=by kernel_rfl
theorem q4_1:q4[1]? = some (oAt q4 1):=by kernel_rfl
theorem q4_1d:(oAt q4 1).dst = some 31:=by kernel_rfl
theorem q4_1g (y:Nat → Option Bool):Region.wanted (oAt q4 1) y = true:=wanted_of (by kernel_rfl) y
theorem q4_1o:(oAt q4 1).op = .move (.tmp 2):=by kernel_rfl
theorem q4_2:q4[2]? = some (oAt q4 2):=by kernel_rfl
theorem q4_2d:(oAt q4 2).dst = some 32:=by kernel_rfl
theorem q4_2g (y:Nat → Option Bool):Region.wanted (oAt q4 2) y = true:=wanted_of (by kernel_rfl) y
theorem q4_2o:(oAt q4 2).op = .move (.tmp 3):=by kernel_rfl
theorem q4_3:q4[3]? = some (oAt q4 3):=by kernel_rfl
theorem q4_3d:(oAt q4 3).dst = some 33:=by kernel_rfl
theorem q4_3g (y:Nat → Option Bool):Region.wanted (oAt q4 3) y = true:=wanted_of (by kernel_rfl) y
theorem q4_3o:(oAt q4 3).op = .convert 3 46 (.tmp 32):=by kernel_rfl
theorem q4_4:q4[4]? = some (oAt q4 4):=by kernel_rfl
theorem q4_4d:(oAt q4 4).dst = some 34:=by kernel_rfl
theorem q4_4g (y:Nat → Option Bool):Region.wanted (oAt q4 4) y = true:=wanted_of (by kernel_rfl) y
theorem q4_4o:(oAt q4 4).op = .move (.tmp 4):=by kernel_rfl
theorem q4_5:q4[5]? = some (oAt q4 5):=by kernel_rfl
theorem q4_5d:(oAt q4 5).dst = some 35:=by kernel_rfl
theorem q4_5g (y:Nat → Option Bool):Region.wanted (oAt q4 5) y = true:=wanted_of (by kernel_rfl) y
theorem q4_5o:(oAt q4 5).op = .convert 3 46 (.tmp 34):=by kernel_rfl
theorem q4_6:q4[6]? = some (oAt q4 6):=by kernel_rfl
theorem q4_6d:(oAt q4 6).dst = some 36:=by kernel_rfl
theorem q4_6g (y:Nat → Option Bool):Region.wanted (oAt q4 6) y = true:=wanted_of (by kernel_rfl) y
theorem q4_6o:(oAt q4 6).op = .move (.tmp 5):=by kernel_rfl
theorem q4_7:q4[7]? = some (oAt q4 7):=by kernel_rfl
theorem q4_7d:(oAt q4 7).dst = some 37:=by kernel_rfl
theorem q4_7g (y:Nat → Option Bool):Region.wanted (oAt q4 7) y = true:=wanted_of (by kernel_rfl) y
theorem q4_7o:(oAt q4 7).op = .convert 3 5 (.tmp 36):=by kernel_rfl
theorem q4_8:q4[8]? = some (oAt q4 8):=by kernel_rfl
theorem q4_8d:(oAt q4 8).dst = some 38:=by kernel_rfl
theorem q4_8g (y:Nat → Option Bool):Region.wanted (oAt q4 8) y = true:=wanted_of (by kernel_rfl) y
theorem q4_8o:(oAt q4 8).op = .move (.tmp 6):=by kernel_rfl
theorem q4_9:q4[9]? = some (oAt q4 9):=by kernel_rfl
theorem q4_9d:(oAt q4 9).dst = some 39:=by kernel_rfl
theorem q4_9g (y:Nat → Option Bool):Region.wanted (oAt q4 9) y = true:=wanted_of (by kernel_rfl) y
theorem q4_9o:(oAt q4 9).op = .convert 3 46 (.tmp 38):=by kernel_rfl
theorem q4_10:q4[10]? = some (oAt q4 10):=by kernel_rfl
theorem q4_10d:(oAt q4 10).dst = some 40:=by kernel_rfl
theorem q4_10g (y:Nat → Option Bool):Region.wanted (oAt q4 10) y = true:=wanted_of (by kernel_rfl) y
theorem q4_10o:(oAt q4 10).op = .call { callee:=.value (.func 24),args:=#[.tmp 30,.tmp 31,.tmp 33,.tmp 35,.tmp 37,.tmp 39],argTypes:=#[22,22,46,46,5,46] }:=by kernel_rfl
theorem q4_11:q4[11]? = some (oAt q4 11):=by kernel_rfl
theorem q4_11d:(oAt q4 11).dst = none:=by kernel_rfl
theorem q4_11g (y:Nat → Option Bool):Region.wanted (oAt q4 11) y = true:=wanted_of (by kernel_rfl) y
theorem q4_11o:(oAt q4 11).op = .store 22 (.tmp 14) (.tmp 40):=by kernel_rfl
theorem q4_12:q4[12]? = some (oAt q4 12):=by kernel_rfl
theorem q4_12d:(oAt q4 12).dst = none:=by kernel_rfl
theorem q4_12g (y:Nat → Option Bool):Region.wanted (oAt q4 12) y = true:=wanted_of (by kernel_rfl) y
theorem q4_12o:(oAt q4 12).op = .store 4 (.tmp 15) (.const (.bool true)):=by kernel_rfl
theorem q22_range:List.range q22.size = [0,1]:=by kernel_rfl
theorem q22_0:q22[0]? = some (oAt q22 0):=by kernel_rfl
theorem q22_0d:(oAt q22 0).dst = some 2:=by kernel_rfl
theorem q22_0g (y:Nat → Option Bool):Region.wanted (oAt q22 0) y = true:=wanted_of (by kernel_rfl) y
theorem q22_0o:(oAt q22 0).op = .call { callee:=.builtin .recover,args:=#[],argTypes:=#[] }:=by kernel_rfl
theorem q22_1:q22[1]? = some (oAt q22 1):=by kernel_rfl
theorem q22_1d:(oAt q22 1).dst = some 3:=by kernel_rfl
theorem q22_1g (y:Nat → Option Bool):Region.wanted (oAt q22 1) y = true:=wanted_of (by kernel_rfl) y
def Reads (n:Nat) (ds:List Deferred) (a:Act) (l:List (Nat × Value)):Prop:=a.tmps.size = n ∧ a.defers = ds ∧ ∀ t v,l.lookup t = some v → a.eval (.tmp t) = v
theorem Reads.put {n:Nat} {ds:List Deferred} {a:Act} {l:List (Nat × Value)} (h:Reads n ds a l) {d:Nat} (hd:d < n) (v:Value):Reads n ds (a.put (some d) v) ((d,v) :: l):=by
 obtain ⟨h1,h2,h3⟩:=h
 refine ⟨by simp [Act.put,h1],h2,fun t u hu=>?_⟩
 simp only [List.lookup_cons] at hu
 by_cases e:t = d
 ·subst e
  simp only [beq_self_eq_true,if_true,Option.some.injEq] at hu
  subst hu
  simp [Act.put,Act.eval,Array.getD_eq_getD_getElem?,h1,hd]
 ·have e':(t == d) = false:=by simpa using e
  rw [e'] at hu
  simp only [Bool.false_eq_true,if_false] at hu
  rw [← h3 t u hu]
  simp [Act.put,Act.eval,Array.getD_eq_getD_getElem?,Array.getElem?_setIfInBounds_ne (Ne.symm e)]
theorem Reads.put0 {n:Nat} {ds:List Deferred} {a:Act} {l:List (Nat × Value)} (h:Reads n ds a l) (v:Value):Reads n ds (a.put none v) l:=h
end
section
open Go Go.Eng Conc Conc.Lib
variable [RowAddr] [Co] [SeatCo]
structure c15D where
 a:Vec 8
 b:Vec 8
 oa:Nat
 na:Nat
 ob:Nat
 nb:Nat
def c15_rd (a:List AV) (K:List Blk):Option c15D:=
 match a with
 | [(.num (.int .i64 (.c 1))),(.ref (.sl 0 (.s oa) (.s na) none)),(.ref (.sl 1 (.s ob) (.s nb) none)),(.num (.int .i64 (.c 1))),(.num (.int .i64 (.c 8))),(.num (.int .i64 (.c 1))),(.num (.int .i64 (.c 4)))]=>
  match K with
  | [⟨(.b8 a),.ro⟩,⟨(.b8 b),.ro⟩]=>some ⟨a,b,oa,na,ob,nb⟩
  | _=>none
 | _=>none
def c15:Ct c15D where
 pat:=[(.int .i64 (.c 1)),(.sl 0 (.s 0) (.s 0) none),(.sl 1 (.s 0) (.s 0) none),(.int .i64 (.c 1)),(.int .i64 (.c 8)),(.int .i64 (.c 1)),(.int .i64 (.c 4))]
 patH:=[⟨(.b8 (Vec.zero 8 0)),.ro⟩,⟨(.b8 (Vec.zero 8 0)),.ro⟩]
 read:=c15_rd
 args:=fun ⟨_,_,oa,na,ob,nb⟩=>[(.int .i64 (.c 1)),(.sl 0 (.s oa) (.s na) none),(.sl 1 (.s ob) (.s nb) none),(.int .i64 (.c 1)),(.int .i64 (.c 8)),(.int .i64 (.c 1)),(.int .i64 (.c 4))]
 heap:=fun ⟨a,b,_,_,_,_⟩=>[⟨(.b8 a),.ro⟩,⟨(.b8 b),.ro⟩]
 out:=fun ⟨a,b,oa,na,ob,nb⟩=>[⟨(.b8 a),.ro⟩,⟨(.b8 b),.ro⟩,⟨(.gen []),.dead⟩,⟨(.gen []),.dead⟩,⟨(.b8 (keyOf a b oa na ob nb)),.own⟩]
 val:=fun ⟨_,_,_,_,_,_⟩=>(.obj .tup [(.sl 4 (.c 0) (.c 4) (some (.c 4))),(.bool (.c true))])
 good:=fun ⟨a,b,oa,na,ob,nb⟩=>decide (oa + na ≤ a.n ∧ na ≤ 1000000 ∧ ob + nb ≤ b.n ∧ nb ≤ 1000000)
set_option maxRecDepth 100000 in
theorem c15_read (a:List AV) (K:List Blk) (d:c15D) (h:c15.read a K = some d):a = c15.args d ∧ K = c15.heap d:=by
 replace h:c15_rd a K = some d:=h
 unfold c15_rd at h
 split at h
 case h_2=>cases h
 split at h
 case h_2=>cases h
 injection h with h;subst h
 exact ⟨rfl,rfl⟩
section
variable (ρ:Operand → Value) (w:World)
theorem r0_0:(execOp ρ (oAt q0 0)).runQ Tryd.prog w = .ok (.value (bp w.heap.size)) (w.alloc (.cells ⟨[.slice none 0 0]⟩ 22)):=by kernel_rfl
theorem r0_1:(execOp ρ (oAt q0 1)).runQ Tryd.prog w = .ok (.value (bp w.heap.size)) (w.alloc (.cells ⟨[.bool false]⟩ 4)):=by kernel_rfl
theorem r1_0:(execOp ρ (oAt q1 0)).runQ Tryd.prog w = .ok (.value (.func (.func 22) #[] #[ρ (.tmp 14),ρ (.tmp 15)])) w:=by
 simp [execOp,q1_0o,Instr.makeFunc]
theorem r2_1o:(oAt q2 1).op = .binOp .eql 3 (.tmp 17) (.const (.int .i64 0)) 3:=by kernel_rfl
theorem bin1:(do eqGuard .eql 3 (.tmp 17) (.const (.int .i64 0)) (.int .i64 1) (.int .i64 0);binOp .eql 3 (.int .i64 1) (.int .i64 0):Sem Value).runQ Tryd.prog w = .ok (.bool false) w:=by kernel_rfl
theorem mov {o:Oper} {t:Nat} (h:o.op = .move (.tmp t)):(execOp ρ o).runQ Tryd.prog w = .ok (.value (ρ (.tmp t))) w:=by
 simp [execOp,h]
theorem cv1:(convert 3 46 (.int .i64 1)).runQ Tryd.prog w = .ok (.int .u32 1) w:=by kernel_rfl
theorem cv8:(convert 3 46 (.int .i64 8)).runQ Tryd.prog w = .ok (.int .u32 8) w:=by kernel_rfl
theorem cv4:(convert 3 46 (.int .i64 4)).runQ Tryd.prog w = .ok (.int .u32 4) w:=by kernel_rfl
theorem cvb:(convert 3 5 (.int .i64 1)).runQ Tryd.prog w = .ok (.int .u8 1) w:=by kernel_rfl
theorem cnv {o:Oper} {s d t:Nat} {u v:Value} (h:o.op = .convert s d (.tmp t)) (hu:ρ (.tmp t) = u) (hr:(convert s d u).runQ Tryd.prog w = .ok v w):(execOp ρ o).runQ Tryd.prog w = .ok (.value v) w:=by
 simp only [execOp,h,hu]
 rw [Sem.runQ_bind,hr]
 rfl
theorem neq0:(do eqGuard .neq 20 (.tmp 2) (.const .nilIface) .nilIface .nilIface;binOp .neq 20 .nilIface .nilIface:Sem Value).runQ Tryd.prog w = .ok (.bool false) w:=by kernel_rfl
theorem r22_1o:(oAt q22 1).op = .binOp .neq 20 (.tmp 2) (.const .nilIface) 20:=by kernel_rfl
theorem r22_1 (h:ρ (.tmp 2) = .nilIface) (hc:ρ (.const .nilIface) = .nilIface):(execOp ρ (oAt q22 1)).runQ Tryd.prog w = .ok (.value (.bool false)) w:=by
 simp only [execOp,r22_1o,h,hc]
 rw [Sem.runQ_bind,neq0]
 rfl
theorem r2_1 (h:ρ (.tmp 17) = .int .i64 1) (hc:ρ (.const (.int .i64 0)) = .int .i64 0):(execOp ρ (oAt q2 1)).runQ Tryd.prog w = .ok (.value (.bool false)) w:=by
 simp only [execOp,r2_1o,h,hc]
 rw [Sem.runQ_bind,bin1]
 rfl
theorem r4_10 (hρ:ρ (.func 24) = .func (.func 24) #[] #[]):(execOp ρ (oAt q4 10)).runQ Tryd.prog w = .ok (.enter 24 #[ρ (.tmp 30),ρ (.tmp 31),ρ (.tmp 33),ρ (.tmp 35),ρ (.tmp 37),ρ (.tmp 39)]) w:=by
 have hb:Tryd.f24.body.isNone = false:=by kernel_rfl
 have hn:(Tryd.f24.name == "runtime.NumGoroutine") = false:=by kernel_rfl
 have hb':¬ Tryd.f24.body = none:=by intro h;rw [h] at hb;cases hb
 have hn':¬ Tryd.f24.name = "runtime.NumGoroutine":=by simpa using hn
 simp [execOp,q4_10o,resolve,invoke,callFunc,Tryd.func24,hb',hn',hρ,Deferred.ofValue]
theorem st_run {t:TypeId} {a v:Value} {w':World} (h:(Instr.storeAt t a v).runQ Tryd.prog w = .ok () w') {o:Oper} {x y:Operand} (ho:o.op = .store t x y) (hx:ρ x = a) (hy:ρ y = v):(execOp ρ o).runQ Tryd.prog w = .ok .skip w':=by
 simp only [execOp,ho,hx,hy]
 rw [Sem.runQ_bind,h]
 rfl
end
def Inv (β0:Map) (H0:List Blk) (w0:World) (β:Map) (H:List Blk) (w:World):Prop:=HRel noGlob β H w ∧ Stp β0 H0 w0 β H w
variable {β0 β:Map} {H0 H:List Blk} {w0 w w₁:World}
theorem Inv.rely (h:Inv β0 H0 w0 β H w) (r:Rely w w₁):Inv β0 H0 w0 β H w₁:=⟨h.1.rely r,h.2.trans (r.stp β H)⟩
theorem vstep {ops:Array Oper} {Q:Exit → Act → World → Prop} {i:Nat} {rest:List Nat} {o:Oper} {a:Act} {v:Value} {I:World → Prop} (hI:∀ w w₁,I w → Rely w w₁ → I w₁) (ho:ops[i]? = some o) (hw:∀ y,Region.wanted o y = true)
 (hr:∀ w₁,(execOp a.eval o).runQ Tryd.prog w₁ = .ok (.value v) w₁) (h:I w) (hn:∀ w₁,I w₁ → wpOpsJ Tryd.prog ops Q rest (a.put o.dst v) w₁):wpOpsJ Tryd.prog ops Q (i :: rest) a w:=by
 simp only [wpOpsJ,ho,hw,if_true]
 intro w₁ r₁
 exact ⟨.value v,w₁,hr w₁,fun _=>⟨Far.refl _,hn w₁ (hI _ _ h r₁)⟩⟩
end
section
open Go Go.Eng Conc Conc.Lib
variable [RowAddr] [Co] [SeatCo]
def d22 (x y:Value):Deferred:={ target:=.fn (.func 22) #[x,y],args:=#[] }
theorem step_defer {b:Frame} {a:Act} {k:List Item} {cs:List Frame} {w:World} {x y:Value} (hk:b.kind ≠ .early) (h:a.eval (.tmp 16) = .func (.func 22) #[] #[x,y]) (main:Bool) :
 stepG Tryd.prog main (G (b.at a (.inRegion q1 [1] :: k)) cs) w = .go (G (b.at ⟨a.tmps,d22 x y :: a.defers⟩ (.inRegion q1 [] :: k)) cs) w #[]:=by
 have hr:(execOp a.eval (oAt q1 1)).run Tryd.prog w = .ok (.defer (d22 x y)) w:=by
  unfold execOp
  simp [q1_1o,resolve,Deferred.ofValue,h,d22]
 have he:(execOp a.eval (oAt q1 1)).events Tryd.prog w #[] = #[]:=by
  unfold execOp
  simp [q1_1o,resolve,Deferred.ofValue,h]
 have hfin:(b.at ⟨a.tmps,d22 x y :: a.defers⟩ (.inRegion q1 [1] :: k)).finish undef = b.at ⟨a.tmps,d22 x y :: a.defers⟩ (.inRegion q1 [] :: k):=by
  rw [Frame.finish_at,q1_1]
  show b.at (Act.put _ ((oAt q1 1).dst) undef) _ = _
  rw [q1_1d];rfl
 have hk':(b.kind == CallKind.early) = false:=by simpa using hk
 rw [stepG_oper q1_1 (q1_1g _),← hfin]
 simp [stepG.apply,hr,he,G,Frame.at,hk',GStep.after,seen_none]
theorem step_out {b:Frame} {a:Act} {todo:List Item} {cs:List Frame} {w:World} {x y:Value} (hd:a.defers = [d22 x y]) (main:Bool) :
 stepG Tryd.prog main (G { b.at a todo with mode:=.returning } cs) w =
  .go (G ((baseD 22).at { tmps:=#[x,y] ++ Array.replicate 2 undef,defers:=[] } [.code (bodyIn Tryd.prog 22)]) ({ b.at ⟨a.tmps,[]⟩ todo with mode:=.returning } :: cs)) w #[]:=by
 have hb:Tryd.f22.body = some (bodyIn Tryd.prog 22):=by kernel_rfl
 have hn:Tryd.f22.ntmps = 4:=by kernel_rfl
 have hnm:(Tryd.f22.name == "runtime.NumGoroutine") = false:=by kernel_rfl
 have hnm':¬ Tryd.f22.name = "runtime.NumGoroutine":=by simpa using hnm
 have he:Frame.enter Tryd.prog 22 #[x,y] .deferred = (baseD 22).at { tmps:=#[x,y] ++ Array.replicate 2 undef,defers:=[] } [.code (bodyIn Tryd.prog 22)]:=by
  rw [enter_atD _ Tryd.func22 hb,hn];rfl
 rw [← he]
 simp [G,stepG,unwind,callDeferred,Frame.at,hd,d22,invoke,callFunc,Tryd.func22,hnm',hb,GStep.after,seen_none]
theorem step_recover {a:Act} {k:List Item} {c:Frame} {cs:List Frame} {w:World} (hc:c.mode = .returning) (main:Bool) :
 stepG Tryd.prog main (G ((baseD 22).at a (.inRegion q22 [0,1] :: k)) (c :: cs)) w = .go (G ((baseD 22).at (a.put (some 2) .nilIface) (.inRegion q22 [1] :: k)) (c :: cs)) w #[]:=by
 have hr:(execOp a.eval (oAt q22 0)).run Tryd.prog w = .ok .recover w:=by
  unfold execOp
  simp [q22_0o,resolve,invoke,builtin]
 have he:(execOp a.eval (oAt q22 0)).events Tryd.prog w #[] = #[]:=by
  unfold execOp
  simp [q22_0o,resolve,invoke,builtin]
 have hfin:((baseD 22).at a (.inRegion q22 [0,1] :: k)).finish .nilIface = (baseD 22).at (a.put (some 2) .nilIface) (.inRegion q22 [1] :: k):=by
  rw [Frame.finish_at,q22_0]
  show (baseD 22).at (Act.put _ ((oAt q22 0).dst) _) _ = _
  rw [q22_0d]
 rw [stepG_oper q22_0 (q22_0g _),← hfin]
 simp [stepG.apply,hr,he,G,Frame.at,GStep.after,seen_none,baseD,Frame.roundOf,tryRecover,hc]
end
section
open Go Go.Eng Conc Conc.Lib
variable [RowAddr] [Co] [SeatCo]
theorem reg1_wp {Q:Exit → Act → World → Prop} {a:Act} {w:World} {x y:Value} {I:World → Prop} (hI:∀ w w₁,I w → Rely w w₁ → I w₁) (h14:a.eval (.tmp 14) = x) (h15:a.eval (.tmp 15) = y) (hs:16 < a.tmps.size) (h:I w)
 (hQ:∀ w₁,I w₁ → Q .normal ⟨(a.put (some 16) (.func (.func 22) #[] #[x,y])).tmps,d22 x y :: a.defers⟩ w₁):(Code.region 1 q1 false).wpj Tryd.prog Q a w:=by
 intro b k cs Stop hb hc
 refine GoesJ.ctl rfl hb.2 (fun _=>stepG_region) ?_
 rw [q1_range]
 refine (opsJ_cons q1_0 (q1_0g _) (Q:=Q) ?_) b k cs Stop hb hc
 intro w₁ r₁
 have hrun:=r1_0 a.eval w₁
 rw [h14,h15] at hrun
 refine ⟨.value _,w₁,hrun,fun _=>⟨Far.refl _,?_⟩⟩
 rw [q1_0d]
 intro b k cs Stop hb hc
 have e16:(a.put (some 16) (.func (.func 22) #[] #[x,y])).eval (.tmp 16) = .func (.func 22) #[] #[x,y]:=put_same hs
 refine GoesJ.ctl rfl hb.2 (fun w₂=>step_defer hb.1 e16 _) (GoesJ.ctl rfl hb.2 (fun _=>stepG_region_end) ?_)
 exact hc .normal _ _ (hQ w₁ (hI _ _ h r₁))
def H4 (a b:Vec 8) (x y:AV):List Blk:=[⟨.b8 a,.ro⟩,⟨.b8 b,.ro⟩,⟨.gen [x],.own⟩,⟨.gen [y],.own⟩]
def H5 (a b:Vec 8) (oa na ob nb:Nat) (x y:AV):List Blk:=[⟨.b8 a,.ro⟩,⟨.b8 b,.ro⟩,⟨.gen [x],.own⟩,⟨.gen [y],.own⟩,⟨.b8 (keyOf a b oa na ob nb),.own⟩]
abbrev keySl:AV:=.ref (.sl 4 (.c 0) (.c 4) (some (.c 4)))
theorem two_new {β:Map} {a b:Vec 8} {w:World} (hH:HRel noGlob β [⟨.b8 a,.ro⟩,⟨.b8 b,.ro⟩] w) (hm:Co.mine w.heap.size) :
 HRel noGlob (β.put 2 ⟨w.heap.size,0,1⟩) [⟨.b8 a,.ro⟩,⟨.b8 b,.ro⟩,⟨.gen [.atom .nils],.own⟩] (w.alloc (.cells ⟨[.slice none 0 0]⟩ 22)) ∧
 Stp β [⟨.b8 a,.ro⟩,⟨.b8 b,.ro⟩] w (β.put 2 ⟨w.heap.size,0,1⟩) [⟨.b8 a,.ro⟩,⟨.b8 b,.ro⟩,⟨.gen [.atom .nils],.own⟩] (w.alloc (.cells ⟨[.slice none 0 0]⟩ 22)):=
 hH.new (.gen [.atom .nils]) [.slice none 0 0] 22 (Nat.le_refl 1) (.cons .nils (.nil _)) hm
theorem three_new {β:Map} {a b:Vec 8} {w:World} (hH:HRel noGlob β [⟨.b8 a,.ro⟩,⟨.b8 b,.ro⟩,⟨.gen [.atom .nils],.own⟩] w) (hm:Co.mine w.heap.size) :
 HRel noGlob (β.put 3 ⟨w.heap.size,0,1⟩) (H4 a b (.atom .nils) (.atom (.bool (.c false)))) (w.alloc (.cells ⟨[.bool false]⟩ 4)) ∧
 Stp β [⟨.b8 a,.ro⟩,⟨.b8 b,.ro⟩,⟨.gen [.atom .nils],.own⟩] w (β.put 3 ⟨w.heap.size,0,1⟩) (H4 a b (.atom .nils) (.atom (.bool (.c false)))) (w.alloc (.cells ⟨[.bool false]⟩ 4)):=
 hH.new (.gen [.atom (.bool (.c false))]) [.bool false] 4 (Nat.le_refl 1) (.cons (.bool (.c false)) (.nil _)) hm
def args24 (oa na ob nb:Nat):List AV:=[.ref (.sl 0 (.s oa) (.s na) none),.ref (.sl 1 (.s ob) (.s nb) none),.num (.int .u32 (.c 1)),.num (.int .u32 (.c 8)),.num (.int .u8 (.c 1)),.num (.int .u32 (.c 4))]
theorem spec24 (a b:Vec 8) (oa na ob nb:Nat) (x y:AV):callSpec c24.spec (args24 oa na ob nb) ⟨H4 a b x y,big,[],[]⟩ = some (keySl,⟨H5 a b oa na ob nb x y,big,[],[decide (oa + na ≤ a.n ∧ na ≤ 1000000 ∧ ob + nb ≤ b.n ∧ nb ≤ 1000000)]⟩):=by kernel_rfl
theorem store14 (a b:Vec 8) (oa na ob nb:Nat) (y:AV):storeOp Tryd.prog 22 (.ptr 2 (.c 0)) keySl ⟨H5 a b oa na ob nb (.atom .nils) y,big,[],[]⟩ = some ⟨H5 a b oa na ob nb keySl y,2,[],[]⟩:=by kernel_rfl
theorem store15 (a b:Vec 8) (oa na ob nb:Nat):storeOp Tryd.prog 4 (.ptr 3 (.c 0)) (.bool (.c true)) ⟨H5 a b oa na ob nb keySl (.bool (.c false)),2,[],[]⟩ = some ⟨H5 a b oa na ob nb keySl (.bool (.c true)),2,[],[]⟩:=by kernel_rfl
end
section
open Go Go.Eng Conc Conc.Lib
variable [RowAddr] [Co] [SeatCo]
def Out15 (β0:Map) (w0:World) (a b:Vec 8) (oa na ob nb:Nat) (e:Exit) (A:Act) (w:World):Prop:=
 e = .ret ∧ A.tmps.size = 41 ∧ ∃ β x y,A.defers = [d22 x y] ∧ VRel β (.ref (.ptr 2 (.c 0))) (A.eval (.tmp 14)) ∧ VRel β (.ref (.ptr 3 (.c 0))) (A.eval (.tmp 15)) ∧ Inv β0 [⟨.b8 a,.ro⟩,⟨.b8 b,.ro⟩] w0 β (H5 a b oa na ob nb keySl (.atom (.bool (.c true)))) w
theorem ptr0 {β:Map} {b c n:Nat} (h:β b = some ⟨c,0,n⟩):VRel β (.ptr b (.c 0)) (bp c):=.ptr b (.c 0) _ h
theorem Reads.push {n:Nat} {ds:List Deferred} {a:Act} {l:List (Nat × Value)} (h:Reads n ds a l) (d:Deferred):Reads n (d :: ds) ⟨a.tmps,d :: a.defers⟩ l:=⟨h.1,by rw [h.2.1],h.2.2⟩
set_option maxRecDepth 20000 in
theorem body15_wp (h24:SpecOk Tryd.prog noGlob 24 c24.spec) {β:Map} {w:World} {a b:Vec 8} {oa na ob nb:Nat} (hg:oa + na ≤ a.n ∧ na ≤ 1000000 ∧ ob + nb ≤ b.n ∧ nb ≤ 1000000) {v1 v2:Value}
 (h1:VRel β (.ref (.sl 0 (.s oa) (.s na) none)) v1) (h2:VRel β (.ref (.sl 1 (.s ob) (.s nb) none)) v2) (hH:HRel noGlob β [⟨.b8 a,.ro⟩,⟨.b8 b,.ro⟩] w) {A:Act}
 (hA:Reads 41 [] A [(0,.int .i64 1),(1,v1),(2,v2),(3,.int .i64 1),(4,.int .i64 8),(5,.int .i64 1),(6,.int .i64 4)]):(bodyIn Tryd.prog 15).wpj Tryd.prog (Out15 β w a b oa na ob nb) A w:=by
 rw [body15]
 refine wpj_seq (wpj_region ?_)
 rw [q0_range]
 simp only [wpOpsJ,q0_0,q0_0g,q0_1,q0_1g,if_true]
 intro wa ra
 have Ia:Inv β [⟨.b8 a,.ro⟩,⟨.b8 b,.ro⟩] w β [⟨.b8 a,.ro⟩,⟨.b8 b,.ro⟩] wa:=Inv.rely ⟨hH,Stp.refl ..⟩ ra
 refine ⟨.value _,_,r0_0 _ wa,fun hn=>⟨far_alloc _ _,?_⟩⟩
 obtain ⟨n1,n2⟩:=two_new Ia.1 (new_alloc hn)
 have Ib:Inv β [⟨.b8 a,.ro⟩,⟨.b8 b,.ro⟩] w _ _ _:=⟨n1,Ia.2.trans n2⟩
 rw [q0_0d]
 have A1:=hA.put (d:=14) (by decide) (bp wa.heap.size)
 intro wb rb
 have Ic:=Ib.rely rb
 refine ⟨.value _,_,r0_1 _ wb,fun hn'=>⟨far_alloc _ _,?_⟩⟩
 obtain ⟨m1,m2⟩:=three_new Ic.1 (new_alloc hn')
 have Id:Inv β [⟨.b8 a,.ro⟩,⟨.b8 b,.ro⟩] w _ _ _:=⟨m1,Ic.2.trans m2⟩
 rw [q0_1d]
 have A2:=A1.put (d:=15) (by decide) (bp wb.heap.size)
 generalize hβ2:(β.put 2 ⟨wa.heap.size,0,1⟩).put 3 ⟨wb.heap.size,0,1⟩ = β2 at Id m2
 have p2:β2 2 = some ⟨wa.heap.size,0,1⟩:=by rw [← hβ2,Map.put_ne (by decide)];exact Map.put_same ..
 have p3:β2 3 = some ⟨wb.heap.size,0,1⟩:=by rw [← hβ2];exact Map.put_same ..
 generalize wa.heap.size = C0 at A1 A2 p2
 generalize wb.heap.size = C1 at A2 p3
 generalize ((A.put (some 14) (bp C0)).put (some 15) (bp C1)) = A2' at A2
 have stab:∀ {βx:Map} {Hx:List Blk} (u u₁:World),Inv β [⟨.b8 a,.ro⟩,⟨.b8 b,.ro⟩] w βx Hx u → Rely u u₁ → Inv β [⟨.b8 a,.ro⟩,⟨.b8 b,.ro⟩] w βx Hx u₁:=fun u u₁ h r=>h.rely r
 refine wpj_seq (reg1_wp (I:=fun u=>Inv β [⟨.b8 a,.ro⟩,⟨.b8 b,.ro⟩] w β2 (H4 a b (.atom .nils) (.atom (.bool (.c false)))) u) stab (A2.2.2 14 _ rfl) (A2.2.2 15 _ rfl) (by rw [A2.1];decide) Id fun wc Ie=>?_)
 have A3:=(A2.put (d:=16) (by decide) (.func (.func 22) #[] #[bp C0,bp C1])).push (d22 (bp C0) (bp C1))
 have ed:(A2'.put (some 16) (.func (.func 22) #[] #[bp C0,bp C1])).defers = A2'.defers:=rfl
 rw [ed] at A3
 generalize (⟨(A2'.put (some 16) (.func (.func 22) #[] #[bp C0,bp C1])).tmps,d22 (bp C0) (bp C1) :: A2'.defers⟩:Act) = A3' at A3
 refine wpj_seq (wpj_seq (wpj_region ?_))
 rw [q2_range]
 refine vstep (I:=fun u=>Inv β [⟨.b8 a,.ro⟩,⟨.b8 b,.ro⟩] w β2 (H4 a b (.atom .nils) (.atom (.bool (.c false)))) u) stab q2_0 q2_0g (fun u=>mov _ _ q2_0o) Ie fun wd If=>?_
 rw [q2_0d,A3.2.2 0 _ rfl]
 have A4:=A3.put (d:=17) (by decide) (.int .i64 1)
 generalize A3'.put (some 17) (.int .i64 1) = A4' at A4
 refine vstep (I:=fun u=>Inv β [⟨.b8 a,.ro⟩,⟨.b8 b,.ro⟩] w β2 (H4 a b (.atom .nils) (.atom (.bool (.c false)))) u) stab q2_1 q2_1g (fun u=>r2_1 _ _ (A4.2.2 17 _ rfl) rfl) If fun we Ig=>?_
 rw [q2_1d]
 have A5:=A4.put (d:=18) (by decide) (.bool false)
 generalize A4'.put (some 18) (.bool false) = A5' at A5
 show Exit.then _ _ .normal A5' we
 refine wpj_cond_false (A5.2.2 18 _ rfl) (wpj_skip ?_)
 show (Code.seq (.region 4 q4 false) .ret).wpj _ _ _ _
 refine wpj_seq (wpj_region ?_)
 rw [q4_range]
 refine vstep (I:=fun u=>Inv β [⟨.b8 a,.ro⟩,⟨.b8 b,.ro⟩] w β2 (H4 a b (.atom .nils) (.atom (.bool (.c false)))) u) stab q4_0 q4_0g (fun u=>mov _ _ q4_0o) Ig fun wf Ih=>?_
 rw [q4_0d,A5.2.2 1 _ rfl]
 have A6:=A5.put (d:=30) (by decide) v1
 generalize A5'.put (some 30) v1 = A6' at A6
 refine vstep (I:=fun u=>Inv β [⟨.b8 a,.ro⟩,⟨.b8 b,.ro⟩] w β2 (H4 a b (.atom .nils) (.atom (.bool (.c false)))) u) stab q4_1 q4_1g (fun u=>mov _ _ q4_1o) Ih fun wg Ii=>?_
 rw [q4_1d,A6.2.2 2 _ rfl]
 have A7:=A6.put (d:=31) (by decide) v2
 generalize A6'.put (some 31) v2 = A7' at A7
 refine vstep (I:=fun u=>Inv β [⟨.b8 a,.ro⟩,⟨.b8 b,.ro⟩] w β2 (H4 a b (.atom .nils) (.atom (.bool (.c false)))) u) stab q4_2 q4_2g (fun u=>mov _ _ q4_2o) Ii fun wh Ij=>?_
 rw [q4_2d,A7.2.2 3 _ rfl]
 have A8:=A7.put (d:=32) (by decide) (.int .i64 1)
 generalize A7'.put (some 32) (.int .i64 1) = A8' at A8
 refine vstep (I:=fun u=>Inv β [⟨.b8 a,.ro⟩,⟨.b8 b,.ro⟩] w β2 (H4 a b (.atom .nils) (.atom (.bool (.c false)))) u) stab q4_3 q4_3g (fun u=>cnv _ _ q4_3o (A8.2.2 32 _ rfl) (cv1 u)) Ij fun wi Ik=>?_
 rw [q4_3d]
 have A9:=A8.put (d:=33) (by decide) (.int .u32 1)
 generalize A8'.put (some 33) (.int .u32 1) = A9' at A9
 refine vstep (I:=fun u=>Inv β [⟨.b8 a,.ro⟩,⟨.b8 b,.ro⟩] w β2 (H4 a b (.atom .nils) (.atom (.bool (.c false)))) u) stab q4_4 q4_4g (fun u=>mov _ _ q4_4o) Ik fun wj Il=>?_
 rw [q4_4d,A9.2.2 4 _ rfl]
 have B1:=A9.put (d:=34) (by decide) (.int .i64 8)
 generalize A9'.put (some 34) (.int .i64 8) = B1' at B1
 refine vstep (I:=fun u=>Inv β [⟨.b8 a,.ro⟩,⟨.b8 b,.ro⟩] w β2 (H4 a b (.atom .nils) (.atom (.bool (.c false)))) u) stab q4_5 q4_5g (fun u=>cnv _ _ q4_5o (B1.2.2 34 _ rfl) (cv8 u)) Il fun wk Im=>?_
 rw [q4_5d]
 have B2:=B1.put (d:=35) (by decide) (.int .u32 8)
 generalize B1'.put (some 35) (.int .u32 8) = B2' at B2
 refine vstep (I:=fun u=>Inv β [⟨.b8 a,.ro⟩,⟨.b8 b,.ro⟩] w β2 (H4 a b (.atom .nils) (.atom (.bool (.c false)))) u) stab q4_6 q4_6g (fun u=>mov _ _ q4_6o) Im fun wl In=>?_
 rw [q4_6d,B2.2.2 5 _ rfl]
 have B3:=B2.put (d:=36) (by decide) (.int .i64 1)
 generalize B2'.put (some 36) (.int .i64 1) = B3' at B3
 refine vstep (I:=fun u=>Inv β [⟨.b8 a,.ro⟩,⟨.b8 b,.ro⟩] w β2 (H4 a b (.atom .nils) (.atom (.bool (.c false)))) u) stab q4_7 q4_7g (fun u=>cnv _ _ q4_7o (B3.2.2 36 _ rfl) (cvb u)) In fun wm Io=>?_
 rw [q4_7d]
 have B4:=B3.put (d:=37) (by decide) (.int .u8 1)
 generalize B3'.put (some 37) (.int .u8 1) = B4' at B4
 refine vstep (I:=fun u=>Inv β [⟨.b8 a,.ro⟩,⟨.b8 b,.ro⟩] w β2 (H4 a b (.atom .nils) (.atom (.bool (.c false)))) u) stab q4_8 q4_8g (fun u=>mov _ _ q4_8o) Io fun wn Ip=>?_
 rw [q4_8d,B4.2.2 6 _ rfl]
 have B5:=B4.put (d:=38) (by decide) (.int .i64 4)
 generalize B4'.put (some 38) (.int .i64 4) = B5' at B5
 refine vstep (I:=fun u=>Inv β [⟨.b8 a,.ro⟩,⟨.b8 b,.ro⟩] w β2 (H4 a b (.atom .nils) (.atom (.bool (.c false)))) u) stab q4_9 q4_9g (fun u=>cnv _ _ q4_9o (B5.2.2 38 _ rfl) (cv4 u)) Ip fun wo Iq=>?_
 rw [q4_9d]
 have B6:=B5.put (d:=39) (by decide) (.int .u32 4)
 generalize B5'.put (some 39) (.int .u32 4) = B6' at B6
 simp only [wpOpsJ,q4_10,q4_10g,q4_11,q4_11g,q4_12,q4_12g,if_true]
 intro wp rp
 have Ir:=Iq.rely rp
 have hrun:=r4_10 B6'.eval wp rfl
 rw [B6.2.2 30 _ rfl,B6.2.2 31 _ rfl,B6.2.2 33 _ rfl,B6.2.2 35 _ rfl,B6.2.2 37 _ rfl,B6.2.2 39 _ rfl] at hrun
 refine ⟨.enter 24 _,wp,hrun,rfl,?_⟩
 have hs:=(callSpec_ok h24 _ _ _ _ (spec24 a b oa na ob nb (.atom .nils) (.atom (.bool (.c false))))).2 (fun x hx=>by
  have hx:x ∈ [decide (oa + na ≤ a.n ∧ na ≤ 1000000 ∧ ob + nb ≤ b.n ∧ nb ≤ 1000000)]:=hx
  rw [List.mem_singleton] at hx
  rw [hx];exact decide_eq_true hg) β2 wp [v1,v2,.int .u32 1,.int .u32 8,.int .u8 1,.int .u32 4]
  (.cons (h1.mono Iq.2.le) (.cons (h2.mono Iq.2.le) (.cons (.num (.int .u32 (.c 1))) (.cons (.num (.int .u32 (.c 8))) (.cons (.num (.int .u8 (.c 1))) (.cons (.num (.int .u32 (.c 4))) (.nil _))))))) Ir.1
 refine hs.2.mono ?_
 rintro e' wq ⟨u,β3,rfl,hu,hH3,hS3⟩
 have Is:Inv β [⟨.b8 a,.ro⟩,⟨.b8 b,.ro⟩] w β3 (H5 a b oa na ob nb (.atom .nils) (.atom (.bool (.c false)))) wq:=⟨hH3,Ir.2.trans hS3⟩
 rw [q4_10d]
 have B7:=B6.put (d:=40) (by decide) u
 have c2:VRel β3 (.ref (.ptr 2 (.c 0))) (bp C0):=ptr0 (hS3.le _ _ p2)
 have c3:VRel β3 (.ref (.ptr 3 (.c 0))) (bp C1):=ptr0 (hS3.le _ _ p3)
 intro wr rr
 have It:=Is.rely rr
 obtain ⟨wr',hr1,hf1,hk1⟩:=(storeOp_spec (store14 a b oa na ob nb (.atom (.bool (.c false)))) c2 hu It.1).2 (fun x hx=>by cases hx)
 refine ⟨.skip,wr',st_run _ _ hr1 q4_11o (B7.2.2 14 _ rfl) (B7.2.2 40 _ rfl),fun hn1=>⟨hf1,?_⟩⟩
 obtain ⟨β4,hH4,hS4⟩:=hk1 hn1
 have Iu:Inv β [⟨.b8 a,.ro⟩,⟨.b8 b,.ro⟩] w β4 (H5 a b oa na ob nb keySl (.atom (.bool (.c false)))) wr':=⟨hH4,It.2.trans hS4⟩
 rw [q4_11d]
 have B8:=B7.put0 undef
 intro ws rs
 have Iv:=Iu.rely rs
 have c3':=c3.mono hS4.le
 obtain ⟨ws',hr2,hf2,hk2⟩:=(storeOp_spec (store15 a b oa na ob nb) c3' (.bool (.c true)) Iv.1).2 (fun x hx=>by cases hx)
 refine ⟨.skip,ws',st_run _ _ hr2 q4_12o (B8.2.2 15 _ rfl) rfl,fun hn2=>⟨hf2,?_⟩⟩
 obtain ⟨β5,hH5,hS5⟩:=hk2 hn2
 have Iw:Inv β [⟨.b8 a,.ro⟩,⟨.b8 b,.ro⟩] w β5 (H5 a b oa na ob nb keySl (.atom (.bool (.c true)))) ws':=⟨hH5,Iv.2.trans hS5⟩
 rw [q4_12d]
 have B9:=B8.put0 undef
 show (Code.ret).wpj _ _ _ _
 refine wpj_ret ⟨rfl,B9.1,β5,bp C0,bp C1,B9.2.1,?_,?_,Iw⟩
 ·rw [B9.2.2 14 _ rfl];exact (c2.mono hS4.le).mono hS5.le
 ·rw [B9.2.2 15 _ rfl];exact c3'.mono hS5.le
end
section
open Go Go.Eng Conc Conc.Lib
variable [RowAddr] [Co] [SeatCo]
theorem own_cell {β:Map} {H:List Blk} {w:World} {b:Nat} {x:AV} {p:Value} (hH:HRel noGlob β H w) (hb:H[b]? = some ⟨.gen [x],.own⟩) (hp:VRel β (.ptr b (.c 0)) p) :
 ∃ c u,p = .pointer (some (at' c 0)) ∧ VRel β x u ∧ May (at' c 0) false ∧ ∀ w₁,Rely w w₁ → w₁.cell? (at' c 0) = some u:=by
 obtain ⟨L,hL,rfl⟩:=hp.ptr_inv
 rcases hH.blk b _ hb (own_alive rfl) with ⟨L',hL',hbr⟩ | ⟨hl,_⟩
 case inr=>exact absurd hl (by simp [Eng.Data.len])
 rw [hL] at hL';injection hL' with hL';subst hL'
 obtain ⟨hbase,hmine,vs,t,fz,g1,g2,g3,g4,g5⟩:=hbr
 have g5:LRel β [x] (vs.take 1):=g5
 obtain ⟨u,hu,hr⟩:=g5.get (i:=0) (x:=x) rfl
 have hu':vs[0]? = some u:=by
  rw [List.getElem?_take] at hu
  simpa using hu
 have hm:May (at' L.c 0) false:=⟨rfl,.inl hmine⟩
 refine ⟨L.c,u,by rw [hbase];rfl,hr,hm,fun w₁ r=>r.cell hm ?_⟩
 simp [World.cell?,g1,hu']
theorem isAgg22:isAggT Tryd.prog 22 = some false ∧ isAggT Tryd.prog 4 = some false:=⟨by kernel_rfl,by kernel_rfl⟩
theorem res15r:Tryd.f15.results = #[.cell 14 22,.cell 15 4]:=by kernel_rfl
theorem res15 {T:Array Value} {c d:Nat} (h14:T.getD 14 undef = .pointer (some (at' c 0))) (h15:T.getD 15 undef = .pointer (some (at' d 0))) {w:World} {u v:Value} (hc:w.cell? (at' c 0) = some u) (hm:May (at' c 0) false) (hd:w.cell? (at' d 0) = some v) (hn:May (at' d 0) false) :
 (results Tryd.f15 T).runQ Tryd.prog w = .ok (.tuple #[u,v]) w:=by
 have e1:(asAddr (.pointer (some (at' c 0)))).runQ Tryd.prog w = .ok (at' c 0) w:=rfl
 have e2:(asAddr (.pointer (some (at' d 0)))).runQ Tryd.prog w = .ok (at' d 0) w:=rfl
 have l1:(loadVar 22 (at' c 0)).runQ Tryd.prog w = .ok u w:=by simp [loadVar,isAggT_spec isAgg22.1 w,runQ_load Tryd.prog w hc hm]
 have l2:(loadVar 4 (at' d 0)).runQ Tryd.prog w = .ok v w:=by simp [loadVar,isAggT_spec isAgg22.2 w,runQ_load Tryd.prog w hd hn]
 rw [results_eq,Array.mapM_eq_mapM_toList (m:=Sem)]
 simp [res15r,resultOf,h14,h15,e1,e2,l1,l2]
theorem res22 (T:Array Value) (w:World):(results Tryd.f22 T).run Tryd.prog w = .ok (.tuple #[]) w ∧ (results Tryd.f22 T).events Tryd.prog w #[] = #[]:=by
 have hr:Tryd.f22.results = #[]:=by kernel_rfl
 exact ⟨by simp [results,hr],by simp [results,hr]⟩
theorem reads_init (us:List Value) (m t:Nat) (v:Value) (h:us[t]? = some v):(⟨(⟨us⟩:Array Value) ++ Array.replicate m undef,[]⟩:Act).eval (.tmp t) = v:=by
 obtain ⟨ht,e⟩:=List.getElem?_eq_some_iff.1 h
 simp [Act.eval,Array.getD_eq_getD_getElem?,Array.getElem?_append,ht,e]
theorem reads15 (v1 v2:Value):Reads 41 [] ⟨#[.int .i64 1,v1,v2,.int .i64 1,.int .i64 8,.int .i64 1,.int .i64 4] ++ Array.replicate 34 undef,[]⟩ [(0,.int .i64 1),(1,v1),(2,v2),(3,.int .i64 1),(4,.int .i64 8),(5,.int .i64 1),(6,.int .i64 4)]:=by
 refine ⟨by simp,rfl,fun t v hu=>reads_init _ _ _ _ ?_⟩
 match t,hu with
 | 0,hu=>exact hu
 | 1,hu=>exact hu
 | 2,hu=>exact hu
 | 3,hu=>exact hu
 | 4,hu=>exact hu
 | 5,hu=>exact hu
 | 6,hu=>exact hu
 | n + 7,hu=>simp [List.lookup] at hu
set_option maxRecDepth 20000 in
theorem c15_ok (h24:SpecOk Tryd.prog noGlob 24 c24.spec) (hp15:Co.plain 15):SpecOk Tryd.prog noGlob 15 c15.spec:=by
 refine c15.sem c15_read fun d hg β w vs hargs hH hdB=>?_
 obtain ⟨a,b,oa,na,ob,nb⟩:=d
 have hg:oa + na ≤ a.n ∧ na ≤ 1000000 ∧ ob + nb ≤ b.n ∧ nb ≤ 1000000:=of_decide_eq_true hg
 have hH:HRel noGlob β [⟨.b8 a,.ro⟩,⟨.b8 b,.ro⟩] w:=hH
 have hp22:Co.plain 22:=SeatCo.plain 22 (by kernel_rfl)
 obtain ⟨v0,r0,rfl,h0,t0⟩:=hargs.cons_inv
 obtain ⟨v1,r1,rfl,h1,t1⟩:=t0.cons_inv
 obtain ⟨v2,r2,rfl,h2,t2⟩:=t1.cons_inv
 obtain ⟨v3,r3,rfl,h3,t3⟩:=t2.cons_inv
 obtain ⟨v4,r4,rfl,h4,t4⟩:=t3.cons_inv
 obtain ⟨v5,r5,rfl,h5,t5⟩:=t4.cons_inv
 obtain ⟨v6,r6,rfl,h6,t6⟩:=t5.cons_inv
 obtain rfl:=t6.nil_inv
 obtain rfl:=h0.num_inv
 obtain rfl:=h3.num_inv
 obtain rfl:=h4.num_inv
 obtain rfl:=h5.num_inv
 obtain rfl:=h6.num_inv
 refine ⟨⟨Tryd.f15,Tryd.func15,by kernel_rfl,by kernel_rfl⟩,fun cs Stop hc=>?_⟩
 have hb:Tryd.f15.body = some (bodyIn Tryd.prog 15):=by kernel_rfl
 have hn:Tryd.f15.ntmps = 41:=by kernel_rfl
 rw [enter_at _ Tryd.func15 hb,hn]
 have hA:=reads15 v1 v2
 have hb15:OkF (base 15):=⟨by simp [base],hp15⟩
 have hb22:OkF (baseD 22):=⟨by simp [baseD],hp22⟩
 refine body15_wp h24 hg h1 h2 hH hA (base 15) [] cs Stop hb15 fun e A w' q=>?_
 obtain ⟨rfl,hsz,β',x,y,hd,p14,p15,hI⟩:=q
 intro todo
 refine GoesJ.ctl rfl hp15 (fun _=>step_out hd _) ?_
 rw [body22]
 refine GoesJ.ctl rfl hp22 (fun _=>stepG_seq) (GoesJ.ctl rfl hp22 (fun _=>stepG_region) ?_)
 rw [q22_range]
 refine GoesJ.ctl rfl hp22 (fun _=>step_recover rfl _) ?_
 have e2:(Act.put ⟨#[x,y] ++ Array.replicate 2 undef,[]⟩ (some 2) .nilIface).eval (.tmp 2) = .nilIface:=put_same (by simp)
 refine wpOpsJ_sound (P:=Tryd.prog) (ops:=q22) (Q:=fun e a' w₁=>e = .normal ∧ a'.eval (.tmp 3) = .bool false ∧ a'.defers = [] ∧ Inv β [⟨.b8 a,.ro⟩,⟨.b8 b,.ro⟩] w β' (H5 a b oa na ob nb keySl (.atom (.bool (.c true)))) w₁) [1] _ w'
  (vstep (I:=fun u=>Inv β [⟨.b8 a,.ro⟩,⟨.b8 b,.ro⟩] w β' (H5 a b oa na ob nb keySl (.atom (.bool (.c true)))) u) (fun _ _ h r=>h.rely r) q22_1 q22_1g (fun u=>r22_1 _ _ e2 rfl) hI fun w₁ hI₁=>⟨rfl,by rw [q22_1d];exact put_same (by simp [Act.put]),rfl,hI₁⟩) (baseD 22) _ _ _ hb22 fun e a' w₁ q=>?_
 obtain ⟨rfl,e3,hd',hI₁⟩:=q
 refine GoesJ.ctl rfl hp22 (fun _=>stepG_cond e3) ?_
 refine GoesJ.ctl rfl hp22 (fun _=>stepG_skip) (GoesJ.ctl rfl hp22 (fun _=>stepG_end) ?_)
 refine GoesJ.ctl rfl hp22 (fun w₂=>stepG_leave_deferred rfl hd' Tryd.func22 (res22 _ w₂).1 (res22 _ w₂).2 rfl) ?_
 obtain ⟨c0,u0,ep,hv0,hm0,hr0⟩:=own_cell hI₁.1 (b:=2) rfl p14
 obtain ⟨c1,u1,eq,hv1,hm1,hr1⟩:=own_cell hI₁.1 (b:=3) rfl p15
 have hlv:LeavesJ Tryd.prog 15 (.tuple #[u0,u1]) w₁ { (base 15).at ⟨A.tmps,[]⟩ todo with mode:=.returning }:=
  ⟨rfl,rfl,rfl,rfl,Tryd.f15,Tryd.func15,fun w₂ r=>res15 (T:=A.tmps) ep eq (hr0 w₂ r) hm0 (hr1 w₂ r) hm1⟩
 have hR:=hc (.tuple #[u0,u1]) w₁ ⟨_,β',rfl,VRel.tupL (.cons hv0 (.cons hv1 (.nil _))),(hI₁.1.kill 2 (.gen [])).kill 3 (.gen []),(hI₁.2.trans ((Stp.kill 2 (.gen [])).trans (Stp.kill 3 (.gen [])))).q (Nat.le_refl 2)⟩
 cases cs with
 | nil=>exact hR _ hlv
 | cons c cs=>exact .leave hp15 hlv hR
end
section
open Go.Eng
variable [RowAddr] [Co] [SeatCo]
end
section
open Go.Eng
variable [RowAddr] [Co] [SeatCo]
structure c10D where
 unit:Unit:=()
def c10_rd (a:List AV) (K:List Blk):Option c10D:=
 match a with
 | []=>
  match K with
  | []=>some ⟨()⟩
  | _=>none
 | _=>none
def c10:Ct c10D where
 pat:=[]
 patH:=[]
 read:=c10_rd
 args:=fun ⟨_⟩=>[]
 heap:=fun ⟨_⟩=>[]
 out:=fun ⟨_⟩=>[]
 val:=fun ⟨_⟩=>(.agg (mkC sigL))
 good:=fun ⟨_⟩=>decide (True)
theorem c10_run  : endsAs (c10.heap ⟨()⟩).length (some []) (c10.out ⟨()⟩) (c10.val ⟨()⟩) (goB noSpec noLoop 10 (c10.args ⟨()⟩) ⟨c10.heap ⟨()⟩,big,[],[]⟩) = some ((c10.out ⟨()⟩),(c10.val ⟨()⟩),[]):=by kernel_rfl
set_option maxRecDepth 100000 in
theorem c10_read (a:List AV) (K:List Blk) (d:c10D) (h:c10.read a K = some d):a = c10.args d ∧ K = c10.heap d:=by
 replace h:c10_rd a K = some d:=h
 unfold c10_rd at h
 split at h
 case h_2=>cases h
 split at h
 case h_2=>cases h
 injection h with h;subst h
 exact ⟨rfl,rfl⟩
theorem c10_ok:SpecOk Tryd.prog noGlob 10 c10.spec:=by
 refine c10.ok (goB_ok no_specs (no_loops _)) c10_read ?_
 rintro ⟨_⟩ hg
 have hg:True:=of_decide_eq_true hg
 refine ⟨[],(some []),_,c10_run ,?_⟩
 repeat' (refine all_true_cons ?_ ?_)
 all_goals first | exact all_true_nil | rfl | (simp only [bq] <;> omega)
structure c6D where
 unit:Unit:=()
def c6_rd (a:List AV) (K:List Blk):Option c6D:=
 match a with
 | []=>
  match K with
  | []=>some ⟨()⟩
  | _=>none
 | _=>none
def c6:Ct c6D where
 pat:=[]
 patH:=[]
 read:=c6_rd
 args:=fun ⟨_⟩=>[]
 heap:=fun ⟨_⟩=>[]
 out:=fun ⟨_⟩=>[]
 val:=fun ⟨_⟩=>(.bool (.c true))
 good:=fun ⟨_⟩=>decide (True)
set_option maxRecDepth 100000 in
theorem c6_read (a:List AV) (K:List Blk) (d:c6D) (h:c6.read a K = some d):a = c6.args d ∧ K = c6.heap d:=by
 replace h:c6_rd a K = some d:=h
 unfold c6_rd at h
 split at h
 case h_2=>cases h
 split at h
 case h_2=>cases h
 injection h with h;subst h
 exact ⟨rfl,rfl⟩
end
section
open Go.Eng
variable [RowAddr] [Co] [SeatCo]
structure c7fD where
 u:Vec 8
 v:Vec 8
def c7f_rd (a:List AV) (K:List Blk):Option c7fD:=
 match a with
 | [(.ref (.sl 0 (.c 0) (.c 4) none)),(.ref (.sl 1 (.c 0) (.c 4) none))]=>
  match K with
  | [⟨(.b8 u),.ro⟩,⟨(.b8 v),.ro⟩]=>some ⟨u,v⟩
  | _=>none
 | _=>none
def c7f:Ct c7fD where
 pat:=[(.sl 0 (.c 0) (.c 4) none),(.sl 1 (.c 0) (.c 4) none)]
 patH:=[⟨(.b8 (Vec.zero 8 0)),.ro⟩,⟨(.b8 (Vec.zero 8 0)),.ro⟩]
 read:=c7f_rd
 args:=fun ⟨_,_⟩=>[(.sl 0 (.c 0) (.c 4) none),(.sl 1 (.c 0) (.c 4) none)]
 heap:=fun ⟨u,v⟩=>[⟨(.b8 u),.ro⟩,⟨(.b8 v),.ro⟩]
 out:=fun ⟨u,v⟩=>[⟨(.b8 u),.ro⟩,⟨(.b8 v),.ro⟩]
 val:=fun ⟨_,_⟩=>(.bool (.c false))
 good:=fun ⟨u,v⟩=>decide (u.n = 4 ∧ v.n = 4 ∧ ¬ (u.l.getD 0 0#8 = v.l.getD 0 0#8))
theorem c7f_run (u v:Vec 8):endsAs (c7f.heap ⟨u,v⟩).length (some [0,1]) (c7f.out ⟨u,v⟩) (c7f.val ⟨u,v⟩) (goB noSpec noLoop 7 (c7f.args ⟨u,v⟩) ⟨c7f.heap ⟨u,v⟩,big,[true],[]⟩) = some ((c7f.out ⟨u,v⟩),(c7f.val ⟨u,v⟩),[(((u.l.getD 0 (0#8)) != (v.l.getD 0 (0#8))) == true),decide ((0:Nat) < v.n),decide ((0:Nat) < u.n)]):=by kernel_rfl
set_option maxRecDepth 100000 in
theorem c7f_read (a:List AV) (K:List Blk) (d:c7fD) (h:c7f.read a K = some d):a = c7f.args d ∧ K = c7f.heap d:=by
 replace h:c7f_rd a K = some d:=h
 unfold c7f_rd at h
 split at h
 case h_2=>cases h
 split at h
 case h_2=>cases h
 injection h with h;subst h
 exact ⟨rfl,rfl⟩
theorem c7f_ok:SpecOk Tryd.prog noGlob 7 c7f.spec:=by
 refine c7f.ok (goB_ok no_specs (no_loops _)) c7f_read ?_
 rintro ⟨u,v⟩ hg
 have hg:u.n = 4 ∧ v.n = 4 ∧ ¬ (u.l.getD 0 0#8 = v.l.getD 0 0#8):=of_decide_eq_true hg
 refine ⟨[true],(some [0,1]),_,c7f_run u v,?_⟩
 refine all_true_cons ?_ (all_true_cons (decide_eq_true (by omega)) (all_true_cons (decide_eq_true (by omega)) all_true_nil))
 simpa only [beq_iff_eq,bne_iff_ne,ne_eq] using hg.2.2
def c15P (kf:KvT):Ct c15D:={ c15 with out:=fun ⟨a,b,oa,na,ob,nb⟩=>[⟨(.b8 a),.ro⟩,⟨(.b8 b),.ro⟩,⟨(.gen []),.dead⟩,⟨(.gen []),.dead⟩,⟨(.b8 (kf a b oa na ob nb)),.own⟩] }
theorem c15P_eq:c15P keyOf = c15:=rfl
def specs6 (kf:KvT):FuncId → Option Eng.Spec
 | 15=>some (c15P kf).spec
 | 7=>some c7f.spec
 | _=>none
theorem specs6_ok (h15:SpecOk Tryd.prog noGlob 15 c15.spec):∀ f sp,specs6 keyOf f = some sp → SpecOk Tryd.prog noGlob f sp:=by
 intro f sp h
 unfold specs6 at h
 split at h
 ·injection h with h;subst h;rw [c15P_eq];exact h15
 ·injection h with h;subst h;exact c7f_ok
 ·cases h
def Z8:Vec 8:=Vec.of [0#8,0#8,0#8,0#8,0#8,0#8,0#8,0#8]
theorem k6 (kf:KvT):endsAs 0 (some []) [] (.bool (.c true)) (goB (specs6 kf) noLoop 6 [] ⟨[],big,[],[]⟩) = some ([],(.bool (.c true)),[decide ((kf (Vec.of [1#8]) Z8 0 1 0 8).n = 4 ∧ (kf (Vec.of [2#8]) Z8 0 1 0 8).n = 4 ∧ ¬ ((kf (Vec.of [1#8]) Z8 0 1 0 8).l.getD 0 0#8 = (kf (Vec.of [2#8]) Z8 0 1 0 8).l.getD 0 0#8)),decide (0 + 1 ≤ (Vec.of [2#8]).n ∧ 1 ≤ 1000000 ∧ 0 + 8 ≤ Z8.n ∧ 8 ≤ 1000000),decide (0 + 1 ≤ (Vec.of [1#8]).n ∧ 1 ≤ 1000000 ∧ 0 + 8 ≤ Z8.n ∧ 8 ≤ 1000000)]):=by kernel_rfl
theorem hashV_n' (v w:Vec 8) (o np cp oi ni:Nat):(hashV v w o np cp oi ni).n = v.n:=by
 unfold hashV
 split
 ·rfl
 ·have L:=(l_inv v w o np cp oi ni ((np - 32 - 33) / 32)).q3
  split
  ·exact L
  ·exact L
def KeysApart:Prop:=¬ ((keyOf (Vec.of [1#8]) Z8 0 1 0 8).l.getD 0 0#8 = (keyOf (Vec.of [2#8]) Z8 0 1 0 8).l.getD 0 0#8)
theorem keyOf_n (a b:Vec 8) (oa na ob nb:Nat):(keyOf a b oa na ob nb).n = 4:=hashV_n' Z4 _ _ _ _ _ _
theorem c6_ok (h15:SpecOk Tryd.prog noGlob 15 c15.spec) (hk:KeysApart):SpecOk Tryd.prog noGlob 6 c6.spec:=by
 refine c6.ok (goB_ok (specs6_ok h15) (no_loops _)) c6_read ?_
 rintro ⟨_⟩ hg
 refine ⟨[],some [],_,k6 keyOf,?_⟩
 exact all_true_cons (decide_eq_true ⟨keyOf_n ..,keyOf_n ..,hk⟩) (all_true_cons rfl (all_true_cons rfl all_true_nil))
end
section
open Go.Eng
variable [RowAddr] [Co] [SeatCo]
theorem set_get {w:Nat} (X:Vec w) (a i:Nat) (x d:BitVec w) (ha:a < X.n):(X.set a x).l.getD i d = if i = a then x else X.l.getD i d:=by
 have h:=X.h
 show (X.l.set a x).getD i d = _
 rw [List.getD_eq_getElem?_getD,List.getD_eq_getElem?_getD,List.getElem?_set]
 by_cases e:i = a
 ·subst e
  rw [if_pos rfl,if_pos rfl,if_pos (by omega)]
  rfl
 ·rw [if_neg (fun q=>e q.symm),if_neg e]
theorem vec_of {w:Nat} (v:Vec w) (l:List (BitVec w)) (h:v.n = l.length) (H:∀ i,i < v.n → v.l.getD i 0 = l.getD i 0):v = Vec.of l:=by
 obtain ⟨n,m,hm⟩:=v
 simp only at h H
 have e:m = l:=by
  refine List.ext_getElem (by omega) fun i h1 h2=>?_
  have a:=H i (by omega)
  simpa [List.getD_eq_getElem?_getD,h1,h2] using a
 subst e
 subst hm
 rfl
theorem setB_get (X:Vec 64) (b:Vec 8) (o k i:Nat) (h:o + k < X.n):(setB X b o (k:Int)).l.getD i 0#64 = if i = o + k then lwv b (8 * k) else X.l.getD i 0#64:=by
 unfold setB
 rw [set_get _ _ _ _ _ (by omega),show o + ((k:Int)).toNat * 1 = o + k by omega,show 0 + ((k:Int) * 8).toNat * 1 = 8 * k by omega]
theorem kb0_get (h b:Vec 8) (X:Vec 64) (hX:128 ≤ X.n):∀ k,k ≤ 128 → ∃ Y,iter kb0_next k ⟨h,b,X,0⟩ = ⟨h,b,Y,(k:Int)⟩ ∧ Y.n = X.n ∧ ∀ i,Y.l.getD i 0#64 = if i < k then lwv b (8 * i) else X.l.getD i 0#64
 | 0,_=>⟨X,rfl,rfl,fun i=>by rw [if_neg (by omega)]⟩
 | k + 1,hk=>by
  obtain ⟨Y,e,hn,H⟩:=kb0_get h b X hX k (by omega)
  refine ⟨setB Y b 0 k,by rw [iter_succ,e];rfl,hn,fun i=>?_⟩
  rw [setB_get _ _ _ _ _ (by omega),H,Nat.zero_add]
  by_cases h1:i = k
  ·subst h1
   rw [if_pos rfl,if_pos (by omega)]
  ·rw [if_neg h1]
   by_cases h2:i < k
   ·rw [if_pos h2,if_pos (by omega)]
   ·rw [if_neg h2,if_neg (by omega)]
theorem kb1_get (h b:Vec 8) (X:Vec 64) (hX:256 ≤ X.n):∀ k,k ≤ 128 → ∃ Y,iter kb1_next k ⟨h,b,X,0⟩ = ⟨h,b,Y,(k:Int)⟩ ∧ Y.n = X.n ∧ ∀ i,Y.l.getD i 0#64 = if 128 ≤ i ∧ i < 128 + k then lwv b (8 * (i - 128)) else X.l.getD i 0#64
 | 0,_=>⟨X,rfl,rfl,fun i=>by rw [if_neg (by omega)]⟩
 | k + 1,hk=>by
  obtain ⟨Y,e,hn,H⟩:=kb1_get h b X hX k (by omega)
  refine ⟨setB Y b 128 k,by rw [iter_succ,e];rfl,hn,fun i=>?_⟩
  rw [setB_get _ _ _ _ _ (by omega),H]
  by_cases h1:i = 128 + k
  ·subst h1
   rw [if_pos rfl,if_pos (by omega),show 128 + k - 128 = k by omega]
  ·rw [if_neg h1]
   by_cases h2:128 ≤ i ∧ i < 128 + k
   ·rw [if_pos h2,if_pos (by omega)]
   ·rw [if_neg h2,if_neg (by omega)]
theorem lwv_row (v w:Vec 8) (hv:v.n = 1024) (hw:72 ≤ w.n) (j:Nat) (hj:j < 128):lwv (hashV v w 0 1024 1024 0 72) (8 * j) = (rowC 30 (finF (hI 64) (P0 1024 w 0) (4 + 72))).getD j 0#64:=by
 unfold lwv
 rw [hash_row v w hv hw _ (by omega),hash_row v w hv hw _ (by omega),hash_row v w hv hw _ (by omega),hash_row v w hv hw _ (by omega),hash_row v w hv hw _ (by omega),hash_row v w hv hw _ (by omega),hash_row v w hv hw _ (by omega),hash_row v w hv hw _ (by omega)]
 generalize rowC 30 (finF (hI 64) (P0 1024 w 0) (4 + 72)) = r
 unfold byR
 rw [show (8 * j + 0) / 8 = j by omega,show (8 * j + 1) / 8 = j by omega,show (8 * j + 2) / 8 = j by omega,show (8 * j + 3) / 8 = j by omega,show (8 * j + 4) / 8 = j by omega,show (8 * j + 5) / 8 = j by omega,show (8 * j + 6) / 8 = j by omega,show (8 * j + 7) / 8 = j by omega,show 8 * ((8 * j + 0) % 8) = 0 by omega,show 8 * ((8 * j + 1) % 8) = 8 by omega,show 8 * ((8 * j + 2) % 8) = 16 by omega,show 8 * ((8 * j + 3) % 8) = 24 by omega,show 8 * ((8 * j + 4) % 8) = 32 by omega,show 8 * ((8 * j + 5) % 8) = 40 by omega,show 8 * ((8 * j + 6) % 8) = 48 by omega,show 8 * ((8 * j + 7) % 8) = 56 by omega,lw8_by]
structure Rows (X:Vec 64) (R:List (List (BitVec 64))) (a:Nat):Prop where
 n:X.n = 1024
 len:R.length = a
 row:∀ d,(R.getD d Zr).length = 128
 get:∀ d i,d < 8 → i < 128 → X.l.getD (128 * d + i) 0#64 = gR R d i
theorem rep_get {α:Type} (n i:Nat) (x:α):(List.replicate n x).getD i x = x:=by
 simp only [List.getD_eq_getElem?_getD,List.getElem?_replicate]
 split <;> rfl
theorem startV_rows (h:Vec 8):Rows (startV h) [rowC 30 (finF (hI 64) (P0 1024 (hw0 h) 0) (4 + 72)),rowC 30 (finF (hI 64) (P0 1024 (hw1 h) 0) (4 + 72))] 2:=by
 obtain ⟨Y0,e0,n0,H0⟩:=kb0_get (hw0 h) (blk0 h) Y1024 (by rw [y1024_n];omega) 128 (by omega)
 rw [y1024_n] at n0
 obtain ⟨Y1,e1,n1,H1⟩:=kb1_get (hw1 h) (blk1 h) Y0 (by omega) 128 (by omega)
 have em:(mem0 h).X = Y0:=by
  show (iter kb0_next 128 _).X = _
  rw [e0]
 have es:startV h = Y1:=by
  show (iter kb1_next 128 ⟨hw1 h,blk1 h,(mem0 h).X,0⟩).X = _
  rw [em,e1]
 rw [es]
 have l0:=rowC_len 30 (finF (hI 64) (P0 1024 (hw0 h) 0) (4 + 72))
 have l1:=rowC_len 30 (finF (hI 64) (P0 1024 (hw1 h) 0) (4 + 72))
 have b0:∀ j,j < 128 → lwv (blk0 h) (8 * j) = (rowC 30 (finF (hI 64) (P0 1024 (hw0 h) 0) (4 + 72))).getD j 0#64:=fun j hj=>lwv_row Z1024 (hw0 h) z1024_n (by show 72 ≤ 72;omega) j hj
 have b1:∀ j,j < 128 → lwv (blk1 h) (8 * j) = (rowC 30 (finF (hI 64) (P0 1024 (hw1 h) 0) (4 + 72))).getD j 0#64:=fun j hj=>lwv_row (blk0 h) (hw1 h) ((hashV_n' _ _ _ _ _ _ _).trans z1024_n) (by show 72 ≤ 72;omega) j hj
 generalize rowC 30 (finF (hI 64) (P0 1024 (hw0 h) 0) (4 + 72)) = r0 at l0 b0 ⊢
 generalize rowC 30 (finF (hI 64) (P0 1024 (hw1 h) 0) (4 + 72)) = r1 at l1 b1 ⊢
 refine ⟨by omega,rfl,fun d=>?_,fun d i hd hi=>?_⟩
 ·match d with
  | 0=>exact l0
  | 1=>exact l1
  | d + 2=>exact List.length_replicate
 ·rw [H1,H0]
  match d with
  | 0=>rw [if_neg (by omega),if_pos (by omega),show 128 * 0 + i = i by omega,b0 i hi];rfl
  | 1=>rw [if_pos (by omega),show 128 * 1 + i - 128 = i by omega,b1 i hi];rfl
  | d + 2=>
   rw [if_neg (by omega),if_neg (by omega)]
   show (List.replicate 1024 0#64).getD _ 0#64 = (List.replicate 128 0#64).getD i 0#64
   rw [rep_get,rep_get]
end
section
open Go.Eng
variable [RowAddr] [Co] [SeatCo]
theorem kx0_get (X T:Vec 64) (oa ob oc:Nat) (hT:T.n = 128):∀ k,k ≤ 128 → ∃ Y,iter kx0_next k ⟨X,T,oa,ob,oc,0⟩ = ⟨X,Y,oa,ob,oc,(k:Int)⟩ ∧ Y.n = 128 ∧ ∀ i,Y.l.getD i 0#64 = if i < k then X.l.getD (ob + i) 0#64 ^^^ X.l.getD (oc + i) 0#64 else T.l.getD i 0#64
 | 0,_=>⟨T,rfl,hT,fun i=>by rw [if_neg (by omega)]⟩
 | k + 1,hk=>by
  obtain ⟨Y,e,hn,H⟩:=kx0_get X T oa ob oc hT k (by omega)
  refine ⟨setX0 X Y ob oc k,by rw [iter_succ,e];rfl,hn,fun i=>?_⟩
  unfold setX0
  rw [set_get _ _ _ _ _ (by omega),H]
  by_cases h1:i = k
  ·subst h1
   rw [if_pos (by omega),if_pos (by omega),show (i:Int).toNat * 1 = i by omega]
  ·rw [if_neg (by omega)]
   by_cases h2:i < k
   ·rw [if_pos h2,if_pos (by omega)]
   ·rw [if_neg h2,if_neg (by omega)]
theorem kx3_get (X T:Vec 64) (a b c:Nat) (ha:128 * a + 128 ≤ X.n):∀ k,k ≤ 128 → ∃ Y,iter kx3_next k ⟨X,T,128 * a,128 * b,128 * c,0⟩ = ⟨Y,T,128 * a,128 * b,128 * c,(k:Int)⟩ ∧ Y.n = X.n ∧ ∀ d i,i < 128 → Y.l.getD (128 * d + i) 0#64 = if d = a ∧ i < k then X.l.getD (128 * a + i) 0#64 ^^^ ((X.l.getD (128 * b + i) 0#64 ^^^ X.l.getD (128 * c + i) 0#64) ^^^ T.l.getD i 0#64) else X.l.getD (128 * d + i) 0#64
 | 0,_=>⟨X,rfl,rfl,fun d i hi=>by rw [if_neg (by omega)]⟩
 | k + 1,hk=>by
  obtain ⟨Y,e,hn,H⟩:=kx3_get X T a b c ha k (by omega)
  refine ⟨setX3 Y T (128 * a) (128 * b) (128 * c) k,by rw [iter_succ,e];rfl,hn,fun d i hi=>?_⟩
  have sa:=H a k (by omega)
  have sb:=H b k (by omega)
  have sc:=H c k (by omega)
  rw [if_neg (by omega)] at sa sb sc
  unfold setX3
  rw [show (k:Int).toNat * 1 = k by omega,set_get _ _ _ _ _ (by omega),sa,sb,sc,H d i hi,Nat.zero_add]
  by_cases h1:d = a ∧ i = k
  ·obtain ⟨rfl,rfl⟩:=h1
   rw [if_pos rfl,if_pos ⟨rfl,by omega⟩]
  ·rw [if_neg (show ¬ 128 * d + i = 128 * a + k by omega)]
   by_cases h2:d = a ∧ i < k
   ·rw [if_pos h2,if_pos (by omega)]
   ·rw [if_neg h2,if_neg (by omega)]
theorem xo_len:∀ (x y:List (BitVec 64)),x.length = y.length → (xo x y).length = x.length
 | [],[],_=>rfl
 | [],_ :: _,h=>by cases h
 | _ :: _,[],h=>by cases h
 | x :: r,y :: s,h=>by
  show (xo r s).length + 1 = r.length + 1
  rw [xo_len r s (by simpa using h)]
theorem xo_get:∀ (x y:List (BitVec 64)) (i:Nat),x.length = y.length → (xo x y).getD i 0#64 = x.getD i 0#64 ^^^ y.getD i 0#64
 | [],[],i,_=>by simp [xo]
 | [],_ :: _,_,h=>by cases h
 | _ :: _,[],_,h=>by cases h
 | x :: r,y :: s,0,h=>rfl
 | x :: r,y :: s,i + 1,h=>xo_get r s i (by simpa using h)
theorem gR_app (R:List (List (BitVec 64))) (r:List (BitVec 64)) (d:Nat):(R ++ [r]).getD d Zr = if d = R.length then r else R.getD d Zr:=by
 simp only [List.getD_eq_getElem?_getD]
 by_cases h:d < R.length
 ·rw [List.getElem?_append_left h,if_neg (by omega)]
 ·rw [List.getElem?_append_right (by omega)]
  by_cases h2:d = R.length
  ·rw [if_pos h2,h2,Nat.sub_self];rfl
  ·rw [if_neg h2]
   obtain ⟨m,hm⟩:∃ m,d - R.length = m + 1:=⟨d - R.length - 1,by omega⟩
   rw [hm,List.getElem?_eq_none (by omega:R.length ≤ d)]
   rfl
theorem fold_len (t:List (BitVec 64)) (h:t.length = 128):(foldS ixS (Vec.of t)).l.length = 128:=by
 rw [(foldS ixS (Vec.of t)).h,foldS_n]
 exact h
theorem cmpC_len (x y:List (BitVec 64)) (hx:x.length = 128) (hy:y.length = 128):(cmpC x y).length = 128:=by
 unfold cmpC
 have h:=xo_len x y (by omega)
 rw [xo_len _ _ (by rw [fold_len _ (by omega)];omega)]
 omega
theorem cmpC_get (x y:List (BitVec 64)) (i:Nat) (hx:x.length = 128) (hy:y.length = 128):(cmpC x y).getD i 0#64 = (x.getD i 0#64 ^^^ y.getD i 0#64) ^^^ (foldS ixS (Vec.of (xo x y))).l.getD i 0#64:=by
 unfold cmpC
 have h:=xo_len x y (by omega)
 rw [xo_get _ _ _ (by rw [fold_len _ (by omega)];omega),xo_get _ _ _ (by omega)]
theorem Rows.step {X:Vec 64} {R:List (List (BitVec 64))} {a:Nat} (H:Rows X R a) (b c:Nat) (ha:a < 8) (hb:b < 8) (hc:c < 8):Rows (xrS X (128 * a) (128 * b) (128 * c)) (stC R b c) (a + 1):=by
 obtain ⟨hn,hl,hr,hg⟩:=H
 obtain ⟨T,e,tn,tg⟩:=kx0_get X (Vec.of (List.replicate 128 0#64)) (128 * a) (128 * b) (128 * c) List.length_replicate 128 (by omega)
 have hT:T = Vec.of (xo (R.getD b Zr) (R.getD c Zr)):=by
  refine vec_of T _ ?_ fun i hi=>?_
  ·rw [xo_len _ _ (by rw [hr,hr]),hr];exact tn
  ·have t:=tg i
   rw [if_pos (by omega),hg b i hb (by omega),hg c i hc (by omega)] at t
   exact t.trans (xo_get _ _ i (by rw [hr,hr])).symm
 have ez:z58 X (128 * a) (128 * b) (128 * c) = ⟨X,T,128 * a,128 * b,128 * c,((128:Nat):Int)⟩:=e
 obtain ⟨Y,e',yn,yg⟩:=kx3_get X (foldS ixS T) a b c (by omega) 128 (by omega)
 have ex:xrS X (128 * a) (128 * b) (128 * c) = Y:=by
  unfold xrS y58
  rw [ez]
  show (iter kx3_next 128 _).X = Y
  rw [e']
 rw [ex]
 refine ⟨by omega,?_,fun d=>?_,fun d i hd hi=>?_⟩
 ·unfold stC
  rw [List.length_append,hl]
  rfl
 ·unfold stC
  rw [gR_app]
  split
  ·exact cmpC_len _ _ (hr b) (hr c)
  ·exact hr d
 ·rw [yg d i hi]
  unfold gR stC
  rw [gR_app,hl]
  by_cases h:d = a
  ·subst h
   rw [if_pos ⟨rfl,hi⟩,if_pos rfl,cmpC_get _ _ _ (hr b) (hr c),hg d i hd hi,hg b i hb hi,hg c i hc hi,hT]
   have e0:gR R d i = 0#64:=by
    unfold gR
    have:R.getD d Zr = Zr:=by
     rw [List.getD_eq_getElem?_getD,List.getElem?_eq_none (by omega)];rfl
    rw [this]
    exact rep_get _ _ _
   rw [e0,BitVec.zero_xor]
   rfl
  ·rw [if_neg (by omega),if_neg h]
   exact hg d i hd hi
theorem oaW_ph (x m:BitVec 64):oaW x m = 128 * phN x m ∧ phN x m < 8:=by
 have h:=phiW_lt x m
 have e:(phiW x m).toNat = phN x m:=by
  unfold phiW phN
  have h1:(x >>> 32).setWidth 32 % 1#32 = 0#32:=by apply BitVec.eq_of_toNat_eq;simp [Nat.mod_one]
  rw [h1,BitVec.zero_mul,BitVec.zero_add,BitVec.toNat_setWidth]
  refine Nat.mod_eq_of_lt (Nat.lt_of_lt_of_le (m:=8) ?_ (by decide))
  rw [BitVec.toNat_umod]
  exact Nat.mod_lt _ (by decide)
 refine ⟨?_,by omega⟩
 unfold oaW
 omega
theorem mr_len {α:Type} (f:Nat → α) (n:Nat):((List.range n).map f).length = n:=by rw [List.length_map,List.length_range]
theorem pbV_l (x y:Vec 64) (hx:x.n = 128) (hy:y.n = 128):(pbV x y).l = cmpC x.l y.l:=by
 have h:=x.h
 have h':=y.h
 have hl:x.l.length = y.l.length:=by omega
 have ex:xorV x y = Vec.of (xo x.l y.l):=by
  have xn:(xorV x y).n = 128:=mr_len _ _
  refine vec_of _ _ ?_ fun i hi=>?_
  ·rw [xo_len _ _ hl,xn];omega
  ·rw [xn] at hi
   exact (gmr (fun i=>x.l.getD i 0#64 ^^^ y.l.getD i 0#64) 128 i 0#64 hi).trans (xo_get _ _ _ hl).symm
 unfold pbV
 rw [ex]
 generalize hF:foldS ixS (Vec.of (xo x.l y.l)) = F
 have el:∀ l:List (BitVec 64),(Vec.of l).l = l:=fun _=>rfl
 rw [el]
 have hc:=cmpC_len x.l y.l (by omega) (by omega)
 refine List.ext_getElem (by rw [mr_len,hc]) fun i h1 h2=>?_
 have hi:i < 128:=by omega
 have b:=cmpC_get x.l y.l i (by omega) (by omega)
 rw [hF,List.getD_eq_getElem?_getD,List.getElem?_eq_getElem h2] at b
 rw [List.getElem_map,List.getElem_range]
 exact b.symm
end
end Go.Proofs.YtineimjmnbjdlaaDoor

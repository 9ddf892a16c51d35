/- An interpreter of the model's code over abstract values, proved sound, and a walk in company by it: part of the proof of FnArgon2Start. No condition. -/
import Derived.Test.YtineimjmnbjdlaaDoorYA
import Derived.Conc.FxGenW
import Derived.Conc.FxGenWait
import Derived.Conc.FxGenDone
import Derived.Conc.Company
import Derived.Test.YtineimjmnbjdlaaDoorProg
import Derived.Conc.WgLib
import Derived.KernelRfl
import Derived.Conc.BesideWords
import Derived.Conc.CompanyWords
import Derived.Below
import Derived.Laws.CopyRow
import Derived.Laws.Append
import Derived.Laws.MakeOwn
set_option linter.unusedVariables false
set_option linter.unusedSectionVars false
set_option linter.unusedSimpArgs false
namespace Go.Eng
section
open Conc
open Go.ConcX (stA smA OfWg WgAt KK rd wr mk RCa RCd KCa DC0)
open Go.ConcN (sumTo upd sumTo_upd upd_ne upd_same)
section
variable {P:Program} {m0:Machine} {ty:TypeId} {Sh:Loc → Prop} {Wg d:Nat} {Keep:Nat → Prop} {Pay:World → Prop} {Next Anch:Goroutine → World → Prop} {Low:Nat}
variable {gs:Array Goroutine} {a:Goroutine} {w:World} {sl:Option (Nat × Nat)} {T:Trace} {q:Nat → Nat}
def MGo (P:Program) (ty:TypeId) (Sh:Loc → Prop) (Wg:Nat) (Keep:Nat → Prop) (Pay:World → Prop) (Next Anch:Goroutine → World → Prop) (Low:Nat) (a:Goroutine) (w:World):Prop:=
 a.status = .running ∧ ∃ a' child,stepG P true a w = .spawn a' child w #[] ∧ WgAt ty Wg w KK 0 ∧ WM P ty Wg Keep (MKd P ty Wg Keep Anch) a' w ∧ Way P false (RK ty Wg) (DK Sh Wg Keep) (KR0 P ty Wg Pay Low) child w
theorem Lone.phase (kw:¬ Keep Wg) (ks:∀ a:Addr,Keep a.block → ¬ Sh (.cell a)) (hcl:∀ l,Sh l → ∃ a,l = .cell a) (hLow:Wg < Low) (hPay:∀ w w',Aside Wg w w' → Pay w → Pay w') (hAr:∀ g w,Anch g w → g.status = .running)
 (hAn:∀ g w,Anch g w → WM P ty Wg Keep (MW1 P ty Wg Keep Pay Next Anch) g w)
 (h:Lone P m0 Sh Wg 0 gs a w sl T q) {dd:Nat} {sl':Option (Nat × Nat)} (hst:stepT P (crowd gs w sl) = runT P (crowd gs (w.at dd) sl') 0) (hgo:MGo P ty Sh Wg Keep Pay Next Anch Low a (w.at dd)):PDone P m0 Sh Wg Pay Next gs.size:=by
 obtain ⟨hra,a',child,hsp,hwg,hm,hk⟩:=hgo
 have hlt:=(Array.getElem?_eq_some_iff.1 h.h0).1
 have hrunT:=runT_crowd_spawn (P:=P) (sl:=sl') (i:=0) h.h0 (show stepG P (0 == 0) a (w.at dd) = _ from hsp)
 obtain ⟨J,hR⟩:=h.run
 have hR':=hR.step (hst.trans hrunT) (Nat.le_refl _)
 obtain ⟨t0,ht0⟩:=hm.tree
 obtain ⟨t1,ht1⟩:=hk.tree
 have A:Apt Sh Wg Keep gs.size:=⟨kw,ks,by omega,hcl⟩
 have e0:∀ x y:MemOp,((MemOp.ofEvents 0 a.frame.fn a.frame.place #[]).push x).push y = #[x,y]:=fun x y=>by simp [MemOp.ofEvents]
 rw [e0] at hR'
 have hPT:=h.lt.fork A (h.lv.above _ (Nat.le_refl _)) (x:={ g:=0,fn:=a.frame.fn,pos:=a.frame.place,act:=.go gs.size }) (y:={ g:=gs.size,fn:=child.frame.fn,pos:=a.frame.place,act:=.start }) ⟨rfl,rfl⟩ ⟨rfl,rfl⟩
 have dother:∀ j,Deaf (T ++ #[({ g:=0,fn:=a.frame.fn,pos:=a.frame.place,act:=.go gs.size }:MemOp),{ g:=gs.size,fn:=child.frame.fn,pos:=a.frame.place,act:=.start }]) j = Deaf T j:=fun j=>by
  have e:T ++ #[({ g:=0,fn:=a.frame.fn,pos:=a.frame.place,act:=.go gs.size }:MemOp),{ g:=gs.size,fn:=child.frame.fn,pos:=a.frame.place,act:=.start }] = (T ++ #[({ g:=0,fn:=a.frame.fn,pos:=a.frame.place,act:=.go gs.size }:MemOp)]) ++ #[{ g:=gs.size,fn:=child.frame.fn,pos:=a.frame.place,act:=.start }]:=by apply Array.ext';simp
  rw [e,Deaf_push,Deaf_push];simp [deafStep]
 refine phase_runs A hLow hPay hAr hAn _ ⟨J + 1,_,a',child,w.at dd,sl',_,q,_,1,0,t1,t0,hR',by simp,?_,?_,⟨fun i g hi hx hg=>?_,fun j hj=>?_⟩,.a (.r0 ht1) (.kd ht0) hwg (hPT.relT (w:=w.at dd) (fun e=>by omega)) (fun e=>by omega),rfl⟩
 ·rw [Array.getElem?_push_lt (by simpa using hlt)];simp [hlt]
 ·rw [Array.getElem?_push];simp
 ·rw [dother]
  rw [Array.getElem?_push] at hg
  simp only [Array.size_setIfInBounds] at hg
  split at hg
  ·rename_i e;exact absurd e hx
  ·rw [Array.getElem?_setIfInBounds_ne (by omega)] at hg
   exact h.lv.old i g hi hg
 ·rw [dother]
  have:gs.size + 1 ≤ j:=by simpa using hj
  exact h.lv.above j (by omega)
end
def Born (P:Program) (m0:Machine) (F:FuncId) (c:Nat):Prop:=
 m0.world.heap.size ≤ c ∧ ∃ j m m',runN P j m0 = .next m ∧ runN P (j + 1) m0 = .next m' ∧ c < m'.world.heap.size ∧ (∀ i,i ≤ j → ∀ x,runN P i m0 = .next x → x.world.heap.size ≤ c) ∧ ∃ g,m.gs[0]? = some g ∧ g.frame.fn = F
structure FrmAt (P:Program) (m0:Machine) (F:FuncId) (Sh:Loc → Prop) (gs:Array Goroutine) (g:Goroutine) (w:World) (sl:Option (Nat × Nat)) (T:Trace) (q:Nat → Nat):Prop where
 run:∃ J,RunM P m0 J (crowd gs w sl) T
 h0:gs[0]? = some g
 lv:Leavers P T gs q
 past:Past Sh w.heap.size T
 shun:∀ l,Sh l → ∃ a,l = .cell a ∧ a.block < w.heap.size ∧ Born P m0 F a.block
def Frm (P:Program) (m0:Machine) (F:FuncId) (g:Goroutine) (w:World):Prop:=∃ Sh gs sl T q,FrmAt P m0 F Sh gs g w sl T q
@[reducible] def coMain (P:Program) (m0:Machine) (F:FuncId):Co where
 main:=true
 plain f:=f ≠ F
 mine c:=¬ Born P m0 F c
 rd _ _:=False
 jump P' g w K:=Frm P m0 F g w → ∃ g' w',Frm P m0 F g' w' ∧ K g' w'
section
variable {P:Program} {m0:Machine} {F:FuncId} {Sh:Loc → Prop} {gs:Array Goroutine} {g:Goroutine} {w:World} {sl:Option (Nat × Nat)} {T:Trace} {q:Nat → Nat}
theorem runN_of {J:Nat} {M:Machine} (h:runNT P J m0 #[] = (.next M,T)):runN P J m0 = .next M:=by
 have:=runNT_fst P J m0 #[]
 rw [h] at this;exact this.symm
theorem born_iff {J:Nat} {M M':Machine} {ops:Array MemOp} (hR:RunM P m0 J M T) (hst:stepT P M = (.next M',ops)) (h0:M.gs[0]? = some g) {c:Nat} (h1:M.world.heap.size ≤ c) (h2:c < M'.world.heap.size):Born P m0 F c ↔ g.frame.fn = F:=by
 have hM:=runN_of hR.run
 have hM':=runN_of (runNT_snoc hR.run hst)
 have up:∀ i,i ≤ J → ∀ x,runN P i m0 = .next x → x.world.heap.size ≤ c:=fun i hi x hx=>by
  obtain ⟨m,hm,hle⟩:=hR.up i hi
  rw [hx] at hm;cases hm
  omega
 constructor
 ·rintro ⟨_,j,m,m',hm,hm',hc,hl,x,hx,hf⟩
  rcases Nat.lt_trichotomy j J with h | rfl | h
  ·have:=up (j + 1) h m' hm';omega
  ·rw [hM] at hm;cases hm
   rw [h0] at hx;cases hx
   exact hf
  ·have:=hl (J + 1) h M' hM';omega
 ·intro hf
  exact ⟨up 0 (Nat.zero_le _) m0 rfl,J,M,M',hM,hM',h2,up,g,h0,hf⟩
theorem Past.own' {Sh:Loc → Prop} {B B':Nat} {t:Trace} (h:Past Sh B t) (hB:B ≤ B') {fn:FuncId} {pos:String} {es:Array Event} (hes:∀ e ∈ es,EvL Sh B' e):Past Sh B' (t ++ MemOp.ofEvents 0 fn pos es):=(h.mono hB).own hes
theorem FrmAt.step (h:FrmAt P m0 F Sh gs g w sl T q) {dd:Nat} {sl':Option (Nat × Nat)} (hst:stepT P (crowd gs w sl) = runT P (crowd gs (w.at dd) sl') 0) {g':Goroutine} {w':World} {es:Array Event}
 (hgo:stepG P true g (w.at dd) = .go g' w' es) (hs:w.heap.size ≤ w'.heap.size) (hes:∀ e ∈ es,EvL Sh w'.heap.size e) :
 FrmAt P m0 F Sh ((gs.map (woken P g g' w')).setIfInBounds 0 g') g' w' sl' (T ++ MemOp.ofEvents 0 g.frame.fn g.frame.place es) q ∧ ∀ c,w.heap.size ≤ c → c < w'.heap.size → (Born P m0 F c ↔ g.frame.fn = F):=by
 obtain ⟨J,hR⟩:=h.run
 have hrunT:=runT_crowd_go (P:=P) (sl:=sl') (i:=0) h.h0 (show stepG P (0 == 0) g (w.at dd) = _ from hgo)
 exact ⟨⟨⟨J + 1,hR.step (hst.trans hrunT) hs⟩,get_set_same h.h0,((LB.of h.lv).own (.inl rfl) (Array.getElem?_eq_some_iff.1 h.h0).1 _ _ _).to,Past.own' h.past hs hes,fun l hl=>let ⟨a,e,x,y⟩:=h.shun l hl;⟨a,e,Nat.lt_of_lt_of_le x hs,y⟩⟩,fun c h1 h2=>born_iff hR (hst.trans hrunT) h.h0 h1 h2⟩
theorem FrmAt.slip (h:FrmAt P m0 F Sh gs g w sl T q) (hra:g.status = .running) {i dd:Nat} {sl':Option (Nat × Nat)} (hpos:0 < i) {x:Goroutine} (hi:gs[i]? = some x) (hx:x.status = .running)
 (hst:stepT P (crowd gs w sl) = runT P (crowd gs (w.at dd) sl') i) :
 ∃ gs' T' q',FrmAt P m0 F Sh gs' g (w.at dd) sl' T' q' ∧ sumTo gs'.size q' < sumTo gs.size q:=by
 obtain ⟨g',es,k,hm,hstp,hq,hL'⟩:=(LB.of h.lv).slip hpos id hi hx
 have hi0:(i == 0) = false:=by simp;omega
 have hrunT:=runT_crowd_go (P:=P) (sl:=sl') (i:=i) hi (by rw [hi0];exact hstp (w.at dd))
 obtain ⟨J,hR⟩:=h.run
 refine ⟨_,_,upd q i k,⟨⟨J + 1,hR.step (hst.trans hrunT) (Nat.le_refl _)⟩,by rw [get_set_other (by omega),h.h0,Option.map_some,woken_run hra],(hL' _ _ _).to,h.past.mute (by omega) hm,h.shun⟩,?_⟩
 simpa using sum_slip (q:=q) (Array.getElem?_eq_some_iff.1 hi).1 hq
theorem at_rely [Co] {w w₁:World} (h:AtRel w w₁):Rely w w₁:=by
 obtain ⟨d,rfl⟩:=h
 exact ⟨rfl,rfl,rfl,Nat.le_refl _,fun _ _ _=>rfl,fun _ _ _ _=>rfl⟩
theorem evL_of_may {n:Nat} (hsh:∀ l,Sh l → ∃ a,l = .cell a ∧ a.block < n ∧ Born P m0 F a.block) {B:Nat} {e:Event} (h:@EvMay (coMain P m0 F) B e):EvL Sh B e:=by
 rcases h with ⟨a,wr,rfl,hm,hB⟩ | ⟨m,rfl,hm⟩
 ·refine evL_cell a wr (fun hs=>?_) hB
  obtain ⟨a',e,_,hb⟩:=hsh _ hs
  cases e
  rcases hm.2 with h | ⟨_,h⟩
  ·exact h hb
  ·exact h
 ·refine ⟨fun x hx=>?_,?_,?_,?_⟩ <;> cases hm
  ·cases hx
  ·simp
  ·simp
  ·trivial
theorem along {Stop:Stops} (hSr:∀ g w,Stop g w → g.status = .running) (h:@GoesJ (coMain P m0 F) P Stop g w) (hF:Frm P m0 F g w) :
 ∃ Sh gs g' w' sl T q dd sl',FrmAt P m0 F Sh gs g' w' sl T q ∧ stepT P (crowd gs w' sl) = runT P (crowd gs (w'.at dd) sl') 0 ∧ Stop g' (w'.at dd):=by
 letI:=coMain P m0 F
 have key:∀ w₁,AtRel w w₁ → ∀ n Sh gs sl T q,sumTo gs.size q = n → FrmAt P m0 F Sh gs g w₁ sl T q →
  ∃ Sh gs g' w' sl T q dd sl',FrmAt P m0 F Sh gs g' w' sl T q ∧ stepT P (crowd gs w' sl) = runT P (crowd gs (w'.at dd) sl') 0 ∧ Stop g' (w'.at dd):=by
  clear hF
  induction h with
  | @stop g w hstop=>
   intro w₁ hwr n
   induction n using Nat.strongRecOn generalizing w₁ with
   | _ n ihn=>
    intro Sh gs sl T q hn hF
    have hs:∀ dd,Stop g (w₁.at dd):=fun dd=>hstop _ (at_rely (atRel_tr _ _ _ hwr ⟨dd,rfl⟩))
    have hra:=hSr _ _ (hs 0)
    obtain ⟨i,x,dd,sl',hi,hx,hst⟩:=crowd_pick (P:=P) (w:=w₁) (sl:=sl) (awake_all hF.h0 hra hF.lv) ⟨0,g,hF.h0,hra⟩
    rcases Nat.eq_zero_or_pos i with rfl | hpos
    ·exact ⟨Sh,gs,g,w₁,sl,T,q,dd,sl',hF,hst,hs dd⟩
    ·obtain ⟨gs',T',q',hF',hlt⟩:=hF.slip hra hpos hi hx hst
     exact ihn _ (by omega) (w₁.at dd) (atRel_tr _ _ _ hwr ⟨dd,rfl⟩) Sh gs' sl' T' q' rfl hF'
  | @step g w hra hpl hstep _ ih=>
   intro w₁ hwr n
   induction n using Nat.strongRecOn generalizing w₁ with
   | _ n ihn=>
    intro Sh gs sl T q hn hF
    obtain ⟨i,x,dd,sl',hi,hx,hst⟩:=crowd_pick (P:=P) (w:=w₁) (sl:=sl) (awake_all hF.h0 hra hF.lv) ⟨0,g,hF.h0,hra⟩
    rcases Nat.eq_zero_or_pos i with rfl | hpos
    ·have hr:=at_rely (atRel_tr _ _ _ hwr ⟨dd,rfl⟩:AtRel w (w₁.at dd))
     obtain ⟨g',w',es,hgo,hD⟩:=hstep _ hr
     obtain ⟨J,hR⟩:=hF.run
     have hrunT:=runT_crowd_go (P:=P) (sl:=sl') (i:=0) hF.h0 (show stepG P (0 == 0) g (w₁.at dd) = _ from hgo)
     have hnew:New (w₁.at dd) w':=fun c h1 h2=>fun hb=>hpl ((born_iff hR (hst.trans hrunT) hF.h0 h1 h2).1 hb)
     have hD:=hD hnew
     obtain ⟨hF',_⟩:=hF.step hst hgo hD.size (fun e he=>evL_of_may hF.shun (hD.evs e he))
     exact ih _ g' w' es hr hgo hnew w' (AtRel.refl w') _ Sh _ sl' _ q rfl hF'
    ·obtain ⟨gs',T',q',hF',hlt⟩:=hF.slip hra hpos hi hx hst
     exact ihn _ (by omega) (w₁.at dd) (atRel_tr _ _ _ hwr ⟨dd,rfl⟩) Sh gs' sl' T' q' rfl hF'
  | @jump g w K hj _ ih=>
   intro w₁ hwr n Sh gs sl T q hn hF
   obtain ⟨g',w',⟨Sh',gs',sl',T',q',hF'⟩,hK⟩:=hj w₁ (at_rely hwr) ⟨Sh,gs,sl,T,q,hF⟩
   exact ih w₁ g' w' (at_rely hwr) hK w' (AtRel.refl w') _ Sh' gs' sl' T' q' rfl hF'
 obtain ⟨Sh,gs,sl,T,q,hF⟩:=hF
 exact key w (AtRel.refl w) _ Sh gs sl T q rfl hF
def AtFin (P:Program) (Post:Value → World → Prop) (g:Goroutine) (w:World):Prop:=g.status = .running ∧ ∃ v es,stepG P true g w = .ended (.done v) w es ∧ es = #[] ∧ Post v w
theorem ends {Post:Value → World → Prop} (h:@GoesJ (coMain P m0 F) P (AtFin P Post) g w) (hF:Frm P m0 F g w) :
 ∃ N last o w' t',runNT P (N + 1) m0 #[] = (.ended o w',t') ∧ runN P N m0 = .next last ∧ step P last = .ended o w' ∧ Good P Post last o w' t':=by
 obtain ⟨Sh,gs,g',w',sl,T,q,dd,sl',hF,hst,hra,v,es,hend,rfl,hpost⟩:=along (fun _ _ x=>x.1) h hF
 obtain ⟨J,hR⟩:=hF.run
 have hrunT:=runT_many_ended (P:=P) (sl:=sl') (i:=0) hF.h0 (show stepG P (0 == 0) g' (w'.at dd) = _ from hend)
 have hM:=runN_of hR.run
 have hst':=hst.trans hrunT
 have e0:MemOp.ofEvents 0 g'.frame.fn g'.frame.place #[] = #[]:=by simp [MemOp.ofEvents]
 refine ⟨J,crowd gs w' sl,.done v,w'.at dd,T,?_,hM,by simp [step,hst'],v,rfl,hpost,hF.past.clean,hF.past.over,⟨fun x hx=>?_,rfl⟩,fun j x hx hj=>?_⟩
 ·have:∀ {J:Nat} {m:Machine} {U:Trace},runNT P J m U = (.next (crowd gs w' sl),T) → runNT P (J + 1) m U = (.ended (.done v) (w'.at dd),T):=by
   intro J
   induction J with
   | zero=>
    intro m U h
    simp only [runNT,Prod.mk.injEq,Stepped.next.injEq] at h
    obtain ⟨rfl,rfl⟩:=h
    simp [runNT,hst',e0]
   | succ J ih=>
    intro m U h
    rw [runNT] at h ⊢
    split at h
    ·exact ih h
    ·rename_i hn _
     cases h
     exact (hn _ rfl).elim
  exact this hR.run
 ·obtain ⟨j,hj⟩:=List.mem_iff_getElem?.1 hx
  rw [List.getElem?_drop] at hj
  exact ⟨_,(hF.lv.old (1 + j) x (by omega) (by simpa [crowd] using hj)).leaves⟩
 ·exact ⟨q j,(hF.lv.old j x (by omega) hx).hears _⟩
theorem Frm.first (g:Goroutine) (w:World):Frm P (solo g w) F g w:=
 ⟨fun _=>False,#[g],none,#[],fun _=>0,⟨0,.nil _ _⟩,rfl,leavers_one P g,past_nil.mono (Nat.zero_le _),fun _ x=>x.elim⟩
end
end
section
open Conc Conc.Lib RowKit
open Go.ConcX (stA smA OfWg WgAt KK rd wr mk RCa RCd KCa DC0 WgAt.setSt WgAt.setSm WgAt.of_block WgAt.cellSt WgAt.cellSm WgAt.thaw)
open Go.ConcX.Gen
variable {L:WgLink} {P:Program} {Sh:Loc → Prop} {Wg:Nat} {Keep:Nat → Prop} {Pay:World → Prop}
theorem dm_none {w:World} {es:Array Event} (h:∀ e ∈ es,False):DM Wg Keep w w es:=⟨⟨w.drawn,rfl⟩,fun e he=>(h e he).elim⟩
theorem dm_nil {w:World}:DM Wg Keep w w #[]:=dm_none (by simp)
theorem live_cell0 {w:World} {ty:TypeId} (h:Live ty Wg w):∃ v,w.cell? ⟨Wg,0,none⟩ = some v:=let ⟨_,_,x⟩:=h;⟨_,x.cellSt⟩
theorem live_cell1 {w:World} {ty:TypeId} (h:Live ty Wg w):∃ v,w.cell? ⟨Wg,1,none⟩ = some v:=let ⟨_,_,x⟩:=h;⟨_,x.cellSm⟩
theorem live_lt {w:World} {ty:TypeId} (h:Live ty Wg w):Wg < w.heap.size:=let ⟨_,_,x⟩:=h;wg_lt x
theorem live_rely {w w₁:World} {ty:TypeId} (h:Live ty Wg w) (r:RM ty Wg Keep w w₁):Live ty Wg w₁:=r.live h
theorem p0_write {B:Nat} (hB:Wg < B):EvP0 Wg Keep B ⟨.mark (.write ⟨Wg,1,none⟩),false,true⟩:=
 ⟨fun x hx=>by simp only [MemAct.ofEvent,MemAct.touch?,Option.some.injEq] at hx;subst hx;exact .inl ⟨⟨_,rfl,rfl⟩,by simp⟩,by simp [MemAct.ofEvent],hB⟩
def HeadW (L:WgLink) (Wg:Nat) (c:Frame) (cs:List Frame) (g:Goroutine) (w:World):Prop:=
 ∃ T:Array Value,g = G ((base L.wait).at ⟨T,[]⟩ [.code (L7 L),.inLoop (L7 L),.inBlock 0]) (c :: cs) ∧ T.size = 84 ∧ T[0]? = some (.pointer (some ⟨Wg,0,none⟩)) ∧ Live L.tWg Wg w
def BackW (P:Program) (Pay:World → Prop) (r:Goroutine) (g:Goroutine) (w:World):Prop:=∃ n,Goes P true AtRel DC0 (fun g w=>g = r ∧ Pay w) n g w
variable {b₀:Frame} {a₀:Act} {ops₀:Array Oper} {i₀:Nat} {rest₀:List Nat} {k₀:List Item} {cs:List Frame}
theorem way_of {R:Rel} {D:Grd} {Stop:Stops} {main:Bool} {g:Goroutine} {w:World} (tr:∀ a b c,R a b → R b c → R a c) {n:Nat} (h:Goes P main R D Stop n g w):Way P main R D Stop g w:=Way.of_goes tr h
theorem at_rely0 {w w₁:World} (hPay:∀ w w',Aside Wg w w' → Pay w → Pay w') (h:Pay w) (r:AtRel w w₁):Pay w₁:=by obtain ⟨d,rfl⟩:=r;exact hPay _ _ (Aside.at _ _ _) h
set_option maxRecDepth 100000 in
set_option maxHeartbeats 8000000 in
theorem waitRound' (H:WgLib P L) (hPay:∀ w w',Aside Wg w w' → Pay w → Pay w') (g:Goroutine) (w:World) (h:HeadW L Wg (b₀.at a₀ (.inRegion ops₀ (i₀ :: rest₀) :: k₀)) cs g w) :
 WM P L.tWg Wg Keep (MW1 P L.tWg Wg Keep Pay (BackW P Pay (G (b₀.at (a₀.put ((ops₀[i₀]?).bind (·.dst)) (.tuple #[])) (.inRegion ops₀ rest₀ :: k₀)) cs)) (HeadW L Wg (b₀.at a₀ (.inRegion ops₀ (i₀ :: rest₀) :: k₀)) cs)) g w:=by
 lib_facts
 obtain ⟨T,rfl,hT84,t0,hF⟩:=h
 obtain ⟨v0,v1,v2,v3,v4,v5,v6,v7,v8,v9,v10,v11,v12,v13,v14,v15,v16,v17,v18,v19,v20,v21,v22,v23,v24,v25,v26,v27,v28,v29,v30,v31,v32,v33,v34,v35,v36,v37,v38,v39,v40,v41,v42,v43,v44,v45,v46,v47,v48,v49,v50,v51,v52,v53,v54,v55,v56,v57,v58,v59,v60,v61,v62,v63,v64,v65,v66,v67,v68,v69,v70,v71,v72,v73,v74,v75,v76,v77,v78,v79,v80,v81,v82,v83,rfl⟩:=array84 T hT84
 simp only [List.getElem?_toArray,List.getElem?_cons_zero,Option.some.injEq] at t0
 subst t0
 refine way_of RM.tr (n:=60) ?_
 simp only [L7,body_wait,waitFn,Option.getD_some]
 u_in live_rely hF;rw [stepG_block];simp only [goes_go];refine ⟨dm_nil,?_⟩
 u_in live_rely hF;rw [stepG_seq];simp only [goes_go];refine ⟨dm_nil,?_⟩
 u_in live_rely hF;rw [stepG_region];simp only [goes_go,List.size_toArray,List.length_cons,List.length_nil,Nat.reduceAdd,Nat.zero_add,List.range,List.range.loop];refine ⟨dm_nil,?_⟩
 iterate 3 (u_in live_rely hF;refine goes_oper_k rfl rfl (by k_ne) (fun K hK=>?_);go_simp;refine hK _ _ ⟨dm_none fun e he=>by have hm:=mem_listed he;simp [go_sem, *] at hm,?_⟩;clear hK K;try w_num)
 u_in live_rely hF;refine goes_call rfl rfl (by k_ne) rfl H.f_uLoad (nm_uLoad L) rfl ⟨dm_nil,?_⟩;walk_nrmf uLoadFn
 u_in live_rely hF;rw [stepG_seq];simp only [goes_go];refine ⟨dm_nil,?_⟩
 u_in live_rely hF;rw [stepG_region];simp only [goes_go,List.size_toArray,List.length_cons,List.length_nil,Nat.reduceAdd,Nat.zero_add,List.range,List.range.loop];refine ⟨dm_nil,?_⟩
 u_in live_rely hF;refine goes_oper_k rfl rfl (by k_ne) (fun K hK=>?_);go_simp;refine hK _ _ ⟨dm_none fun e he=>by have hm:=mem_listed he;simp [go_sem, *] at hm,?_⟩;clear hK K;try w_num
 u_in live_rely hF;rw [stepG_region_end];simp only [goes_go];refine ⟨dm_nil,?_⟩
 u_in live_rely hF;rw [stepG_seq];simp only [goes_go];refine ⟨dm_nil,?_⟩
 u_in live_rely hF;rw [stepG_region];simp only [goes_go,List.size_toArray,List.length_cons,List.length_nil,Nat.reduceAdd,Nat.zero_add,List.range,List.range.loop];refine ⟨dm_nil,?_⟩
 iterate 3 (u_in live_rely hF;refine goes_oper_k rfl rfl (by k_ne) (fun K hK=>?_);go_simp;refine hK _ _ ⟨dm_none fun e he=>by have hm:=mem_listed he;simp [go_sem, *] at hm,?_⟩;clear hK K;try w_num)
 refine Goes.stop (fun w₁ h₁=>?_)
 replace hF:=live_rely hF h₁
 clear h₁
 refine ⟨rfl,fun hw=>?_,fun hw=>?_⟩
 ·refine ⟨_,stepG_load_atomic (v:=4294967296) rfl rfl (by k_ne) rfl H.f_loadU64 (x_loadU64_n L) (x_loadU64_b L) (x_loadU64_x L) .u64 (x_loadU64_f L) rfl hw.cellSt,way_of RM.tr (n:=100) ?_⟩
  clear hw
  walk_nrm
  u_in live_rely hF;refine goes_oper_k rfl rfl (by k_ne) (fun K hK=>?_);go_simp;refine hK _ _ ⟨dm_none fun e he=>by have hm:=mem_listed he;simp [go_sem, *] at hm,?_⟩;clear hK K;try w_num
  u_in live_rely hF;rw [stepG_region_end];simp only [goes_go];refine ⟨dm_nil,?_⟩
  u_in live_rely hF;rw [stepG_ret'];simp only [goes_go];refine ⟨dm_nil,?_⟩
  u_in live_rely hF;refine goes_leave1 rfl rfl H.f_uLoad rfl ⟨dm_nil,?_⟩;walk_nrm
  u_in live_rely hF;refine goes_oper_k rfl rfl (by k_ne) (fun K hK=>?_);go_simp;refine hK _ _ ⟨dm_none fun e he=>by have hm:=mem_listed he;simp [go_sem, *] at hm,?_⟩;clear hK K;try w_num
  u_in live_rely hF;rw [stepG_region_end];simp only [goes_go];refine ⟨dm_nil,?_⟩
  u_in live_rely hF;rw [stepG_seq];simp only [goes_go];refine ⟨dm_nil,?_⟩
  u_in live_rely hF;rw [stepG_region];simp only [goes_go,List.size_toArray,List.length_cons,List.length_nil,Nat.reduceAdd,Nat.zero_add,List.range,List.range.loop];refine ⟨dm_nil,?_⟩
  iterate 4 (u_in live_rely hF;refine goes_oper_k rfl rfl (by k_ne) (fun K hK=>?_);go_simp;refine hK _ _ ⟨dm_none fun e he=>by have hm:=mem_listed he;simp [go_sem, *] at hm,?_⟩;clear hK K;try w_num)
  u_in live_rely hF;rw [stepG_region_end];simp only [goes_go];refine ⟨dm_nil,?_⟩
  u_in live_rely hF;rw [stepG_seq];simp only [goes_go];refine ⟨dm_nil,?_⟩
  u_in live_rely hF;rw [stepG_region];simp only [goes_go,List.size_toArray,List.length_cons,List.length_nil,Nat.reduceAdd,Nat.zero_add,List.range,List.range.loop];refine ⟨dm_nil,?_⟩
  iterate 4 (u_in live_rely hF;refine goes_oper_k rfl rfl (by k_ne) (fun K hK=>?_);go_simp;refine hK _ _ ⟨dm_none fun e he=>by have hm:=mem_listed he;simp [go_sem, *] at hm,?_⟩;clear hK K;try w_num)
  u_in live_rely hF;rw [stepG_region_end];simp only [goes_go];refine ⟨dm_nil,?_⟩
  iterate 2 (u_in live_rely hF;rw [stepG_seq];simp only [goes_go];refine ⟨dm_nil,?_⟩)
  u_in live_rely hF;rw [stepG_region];simp only [goes_go,List.size_toArray,List.length_cons,List.length_nil,Nat.reduceAdd,Nat.zero_add,List.range,List.range.loop];refine ⟨dm_nil,?_⟩
  iterate 2 (u_in live_rely hF;refine goes_oper_k rfl rfl (by k_ne) (fun K hK=>?_);go_simp;refine hK _ _ ⟨dm_none fun e he=>by have hm:=mem_listed he;simp [go_sem, *] at hm,?_⟩;clear hK K;try w_num)
  u_in live_rely hF;rw [stepG_region_end];simp only [goes_go];refine ⟨dm_nil,?_⟩
  u_in live_rely hF;rw [stepG_cond (t:=false) rfl];simp only [goes_go,if_true,if_false,Bool.false_eq_true,↓reduceIte];refine ⟨dm_nil,?_⟩
  u_in live_rely hF;rw [stepG_skip];simp only [goes_go];refine ⟨dm_nil,?_⟩
  u_in live_rely hF;rw [stepG_seq];simp only [goes_go];refine ⟨dm_nil,?_⟩
  u_in live_rely hF;rw [stepG_region];simp only [goes_go,List.size_toArray,List.length_cons,List.length_nil,Nat.reduceAdd,Nat.zero_add,List.range,List.range.loop];refine ⟨dm_nil,?_⟩
  iterate 6 (u_in live_rely hF;refine goes_oper_k rfl rfl (by k_ne) (fun K hK=>?_);go_simp;refine hK _ _ ⟨dm_none fun e he=>by have hm:=mem_listed he;simp [go_sem, *] at hm,?_⟩;clear hK K;try w_num)
  u_in live_rely hF;refine goes_call rfl rfl (by k_ne) rfl H.f_uCas (nm_uCas L) rfl ⟨dm_nil,?_⟩;walk_nrmf uCasFn
  u_in live_rely hF;rw [stepG_seq];simp only [goes_go];refine ⟨dm_nil,?_⟩
  u_in live_rely hF;rw [stepG_region];simp only [goes_go,List.size_toArray,List.length_cons,List.length_nil,Nat.reduceAdd,Nat.zero_add,List.range,List.range.loop];refine ⟨dm_nil,?_⟩
  u_in live_rely hF;refine goes_oper_k rfl rfl (by k_ne) (fun K hK=>?_);go_simp;refine hK _ _ ⟨dm_none fun e he=>by have hm:=mem_listed he;simp [go_sem, *] at hm,?_⟩;clear hK K;try w_num
  u_in live_rely hF;rw [stepG_region_end];simp only [goes_go];refine ⟨dm_nil,?_⟩
  u_in live_rely hF;rw [stepG_seq];simp only [goes_go];refine ⟨dm_nil,?_⟩
  u_in live_rely hF;rw [stepG_region];simp only [goes_go,List.size_toArray,List.length_cons,List.length_nil,Nat.reduceAdd,Nat.zero_add,List.range,List.range.loop];refine ⟨dm_nil,?_⟩
  iterate 5 (u_in live_rely hF;refine goes_oper_k rfl rfl (by k_ne) (fun K hK=>?_);go_simp;refine hK _ _ ⟨dm_none fun e he=>by have hm:=mem_listed he;simp [go_sem, *] at hm,?_⟩;clear hK K;try w_num)
  refine Goes.stop (fun w₂ h₂=>?_)
  replace hF:=live_rely hF h₂
  clear h₂
  refine ⟨rfl,fun hw=>?_,fun hw=>?_⟩
  ·
   refine ⟨_,(stepG_cas_hit (v:=4294967296) (n:=4294967297) rfl rfl (by k_ne) rfl H.f_casU64 (x_casU64_n L) (x_casU64_b L) (x_casU64_x L) .u64 (x_casU64_f L) rfl rfl rfl hw.cellSt (hw.thaw 0)).trans (by rfl),way_of RM.tr (n:=100) ?_⟩
   replace hF:Live L.tWg Wg (w₂.setCell (stA Wg) (.int .u64 (KK + 1))):=⟨_,_,hw.setSt _⟩
   clear hw
   walk_nrm
   u_in live_rely hF;refine goes_oper_k rfl rfl (by k_ne) (fun K hK=>?_);go_simp;refine hK _ _ ⟨dm_none fun e he=>by have hm:=mem_listed he;simp [go_sem, *] at hm,?_⟩;clear hK K;try w_num
   u_in live_rely hF;rw [stepG_region_end];simp only [goes_go];refine ⟨dm_nil,?_⟩
   u_in live_rely hF;rw [stepG_ret'];simp only [goes_go];refine ⟨dm_nil,?_⟩
   u_in live_rely hF;refine goes_leave1 rfl rfl H.f_uCas rfl ⟨dm_nil,?_⟩;walk_nrm
   u_in live_rely hF;rw [stepG_region_end];simp only [goes_go];refine ⟨dm_nil,?_⟩
   u_in live_rely hF;rw [stepG_cond (t:=true) rfl];simp only [goes_go,if_true,if_false,Bool.false_eq_true,↓reduceIte];refine ⟨dm_nil,?_⟩
   iterate 2 (u_in live_rely hF;rw [stepG_seq];simp only [goes_go];refine ⟨dm_nil,?_⟩)
   u_in live_rely hF;rw [stepG_region];simp only [goes_go,List.size_toArray,List.length_cons,List.length_nil,Nat.reduceAdd,Nat.zero_add,List.range,List.range.loop];refine ⟨dm_nil,?_⟩
   iterate 4 (u_in live_rely hF;refine goes_oper_k rfl rfl (by k_ne) (fun K hK=>?_);go_simp;refine hK _ _ ⟨dm_none fun e he=>by have hm:=mem_listed he;simp [go_sem, *] at hm,?_⟩;clear hK K;try w_num)
   u_in live_rely hF;rw [stepG_region_end];simp only [goes_go];refine ⟨dm_nil,?_⟩
   u_in live_rely hF;rw [stepG_cond (t:=true) rfl];simp only [goes_go,if_true,if_false,Bool.false_eq_true,↓reduceIte];refine ⟨dm_nil,?_⟩
   u_in live_rely hF;rw [stepG_region];simp only [goes_go,List.size_toArray,List.length_cons,List.length_nil,Nat.reduceAdd,Nat.zero_add,List.range,List.range.loop];refine ⟨dm_nil,?_⟩
   iterate 3 (u_in live_rely hF;refine goes_oper_k rfl rfl (by k_ne) (fun K hK=>?_);go_simp;refine hK _ _ ⟨dm_none fun e he=>by have hm:=mem_listed he;simp [go_sem, *] at hm,?_⟩;clear hK K;try w_num)
   u_in live_rely hF;refine goes_oper_k rfl rfl (by k_ne) (fun Kx hKx=>?_);have hcv:=run_convert_to_unsafe (P:=P) H.underlying_tPU32 H.underlying_tUP H.room_tU32 (live_cell1 hF).choose_spec;have hce:=fun es=>events_convert_to_unsafe (P:=P) H.underlying_tPU32 H.underlying_tUP H.room_tU32 (live_cell1 hF).choose_spec es;go_simp;refine hKx _ _ ⟨dm_none fun ex hex=>by have hmx:=mem_listed hex;simp [go_sem,hce] at hmx,?_⟩;clear hKx Kx hcv hce
   u_in live_rely hF;rw [stepG_markAt .write (by simp) rfl rfl (by k_ne) rfl H.f_raceWrite (x_raceWrite_n L) (x_raceWrite_b L) (x_raceWrite_x L) (x_raceWrite_f L) (ad:=⟨_,1,none⟩) (by simp [Act.eval] <;> rfl)];simp only [goes_go];refine ⟨⟨⟨_,rfl⟩,fun ex hex=>by rw [Array.mem_singleton] at hex;subst hex;exact ⟨p0_write (live_lt hF),by simp,by simp⟩⟩,?_⟩;walk_nrm
   u_in live_rely hF;rw [stepG_region_end];simp only [goes_go];refine ⟨dm_nil,?_⟩
   u_in live_rely hF;rw [stepG_seq];simp only [goes_go];refine ⟨dm_nil,?_⟩
   u_in live_rely hF;rw [stepG_region];simp only [goes_go,List.size_toArray,List.length_cons,List.length_nil,Nat.reduceAdd,Nat.zero_add,List.range,List.range.loop];refine ⟨dm_nil,?_⟩
   u_in live_rely hF;refine goes_oper_k rfl rfl (by k_ne) (fun K hK=>?_);go_simp;refine hK _ _ ⟨dm_none fun e he=>by have hm:=mem_listed he;simp [go_sem, *] at hm,?_⟩;clear hK K;try w_num
   u_in live_rely hF;rw [stepG_region_end];simp only [goes_go];refine ⟨dm_nil,?_⟩
   iterate 2 (u_in live_rely hF;rw [stepG_seq];simp only [goes_go];refine ⟨dm_nil,?_⟩)
   u_in live_rely hF;rw [stepG_region];simp only [goes_go,List.size_toArray,List.length_cons,List.length_nil,Nat.reduceAdd,Nat.zero_add,List.range,List.range.loop];refine ⟨dm_nil,?_⟩
   iterate 4 (u_in live_rely hF;refine goes_oper_k rfl rfl (by k_ne) (fun K hK=>?_);go_simp;refine hK _ _ ⟨dm_none fun e he=>by have hm:=mem_listed he;simp [go_sem, *] at hm,?_⟩;clear hK K;try w_num)
   u_in live_rely hF;rw [stepG_unwanted rfl rfl];simp only [goes_go];refine ⟨dm_nil,?_⟩;walk_nrm
   u_in live_rely hF;refine goes_oper_k rfl rfl (by k_ne) (fun K hK=>?_);go_simp;refine hK _ _ ⟨dm_none fun e he=>by have hm:=mem_listed he;simp [go_sem, *] at hm,?_⟩;clear hK K;try w_num
   u_in live_rely hF;rw [stepG_region_end];simp only [goes_go];refine ⟨dm_nil,?_⟩
   u_in live_rely hF;rw [stepG_cond (t:=false) rfl];simp only [goes_go,if_true,if_false,Bool.false_eq_true,↓reduceIte];refine ⟨dm_nil,?_⟩
   u_in live_rely hF;rw [stepG_skip];simp only [goes_go];refine ⟨dm_nil,?_⟩
   u_in live_rely hF;rw [stepG_seq];simp only [goes_go];refine ⟨dm_nil,?_⟩
   u_in live_rely hF;rw [stepG_region];simp only [goes_go,List.size_toArray,List.length_cons,List.length_nil,Nat.reduceAdd,Nat.zero_add,List.range,List.range.loop];refine ⟨dm_nil,?_⟩
   iterate 4 (u_in live_rely hF;refine goes_oper_k rfl rfl (by k_ne) (fun K hK=>?_);go_simp;refine hK _ _ ⟨dm_none fun e he=>by have hm:=mem_listed he;simp [go_sem, *] at hm,?_⟩;clear hK K;try w_num)
   refine Goes.stop (fun w₃ h₃=>?_)
   replace hF:=live_rely hF h₃
   clear h₃
   refine ⟨rfl,rfl,fun ⟨st,hw⟩=>stepG_semacquire_wait rfl rfl rfl H.f_semacquire (x_semacquire_n L) (x_semacquire_b L) (x_semacquire_x L) (x_semacquire_f L) (by simp [Act.eval,smA]) hw.cellSm,fun hw=>?_⟩
   refine ⟨_,(stepG_semacquire (n:=1) rfl rfl (by k_ne) rfl H.f_semacquire (x_semacquire_n L) (x_semacquire_b L) (x_semacquire_x L) (x_semacquire_f L) (by simp [Act.eval,smA]) hw.cellSm (by k_ne) (hw.thaw 1)).trans (by rfl),way_of RM.tr (n:=60) ?_⟩
   replace hF:Live L.tWg Wg (w₃.setCell (smA Wg) (.int .u32 0)):=⟨_,_,hw.setSm 0⟩
   clear hw
   walk_nrm
   u_in live_rely hF;rw [stepG_region_end];simp only [goes_go];refine ⟨dm_nil,?_⟩
   u_in live_rely hF;rw [stepG_seq];simp only [goes_go];refine ⟨dm_nil,?_⟩
   u_in live_rely hF;rw [stepG_region];simp only [goes_go,List.size_toArray,List.length_cons,List.length_nil,Nat.reduceAdd,Nat.zero_add,List.range,List.range.loop];refine ⟨dm_nil,?_⟩
   iterate 3 (u_in live_rely hF;refine goes_oper_k rfl rfl (by k_ne) (fun K hK=>?_);go_simp;refine hK _ _ ⟨dm_none fun e he=>by have hm:=mem_listed he;simp [go_sem, *] at hm,?_⟩;clear hK K;try w_num)
   u_in live_rely hF;refine goes_call rfl rfl (by k_ne) rfl H.f_uLoad (nm_uLoad L) rfl ⟨dm_nil,?_⟩;walk_nrmf uLoadFn
   u_in live_rely hF;rw [stepG_seq];simp only [goes_go];refine ⟨dm_nil,?_⟩
   u_in live_rely hF;rw [stepG_region];simp only [goes_go,List.size_toArray,List.length_cons,List.length_nil,Nat.reduceAdd,Nat.zero_add,List.range,List.range.loop];refine ⟨dm_nil,?_⟩
   u_in live_rely hF;refine goes_oper_k rfl rfl (by k_ne) (fun K hK=>?_);go_simp;refine hK _ _ ⟨dm_none fun e he=>by have hm:=mem_listed he;simp [go_sem, *] at hm,?_⟩;clear hK K;try w_num
   u_in live_rely hF;rw [stepG_region_end];simp only [goes_go];refine ⟨dm_nil,?_⟩
   u_in live_rely hF;rw [stepG_seq];simp only [goes_go];refine ⟨dm_nil,?_⟩
   u_in live_rely hF;rw [stepG_region];simp only [goes_go,List.size_toArray,List.length_cons,List.length_nil,Nat.reduceAdd,Nat.zero_add,List.range,List.range.loop];refine ⟨dm_nil,?_⟩
   iterate 3 (u_in live_rely hF;refine goes_oper_k rfl rfl (by k_ne) (fun K hK=>?_);go_simp;refine hK _ _ ⟨dm_none fun e he=>by have hm:=mem_listed he;simp [go_sem, *] at hm,?_⟩;clear hK K;try w_num)
   refine Goes.stop (fun w₄ h₄=>?_)
   replace hF:=live_rely hF h₄
   clear h₄
   refine ⟨rfl,fun hw=>⟨_,stepG_load_atomic (v:=0) rfl rfl (by k_ne) rfl H.f_loadU64 (x_loadU64_n L) (x_loadU64_b L) (x_loadU64_x L) .u64 (x_loadU64_f L) rfl hw.cellSt,way_of RM.tr (n:=60) ?_⟩⟩
   clear hw
   walk_nrm
   u_in live_rely hF;refine goes_oper_k rfl rfl (by k_ne) (fun K hK=>?_);go_simp;refine hK _ _ ⟨dm_none fun e he=>by have hm:=mem_listed he;simp [go_sem, *] at hm,?_⟩;clear hK K;try w_num
   u_in live_rely hF;rw [stepG_region_end];simp only [goes_go];refine ⟨dm_nil,?_⟩
   u_in live_rely hF;rw [stepG_ret'];simp only [goes_go];refine ⟨dm_nil,?_⟩
   u_in live_rely hF;refine goes_leave1 rfl rfl H.f_uLoad rfl ⟨dm_nil,?_⟩;walk_nrm
   iterate 2 (u_in live_rely hF;refine goes_oper_k rfl rfl (by k_ne) (fun K hK=>?_);go_simp;refine hK _ _ ⟨dm_none fun e he=>by have hm:=mem_listed he;simp [go_sem, *] at hm,?_⟩;clear hK K;try w_num)
   u_in live_rely hF;rw [stepG_region_end];simp only [goes_go];refine ⟨dm_nil,?_⟩
   u_in live_rely hF;rw [stepG_seq];simp only [goes_go];refine ⟨dm_nil,?_⟩
   u_in live_rely hF;rw [stepG_cond (t:=true) rfl];simp only [goes_go,if_true,if_false,Bool.false_eq_true,↓reduceIte];refine ⟨dm_nil,?_⟩
   u_in live_rely hF;rw [stepG_seq];simp only [goes_go];refine ⟨dm_nil,?_⟩
   u_in live_rely hF;rw [stepG_region];simp only [goes_go,List.size_toArray,List.length_cons,List.length_nil,Nat.reduceAdd,Nat.zero_add,List.range,List.range.loop];refine ⟨dm_nil,?_⟩
   refine Goes.stop (fun w₅ h₅=>?_)
   replace hF:=live_rely hF h₅
   clear h₅
   refine ⟨rfl,_,stepG_mark0 .enable (by simp) rfl rfl (by k_ne) rfl H.f_enable (x_enable_n L) (x_enable_b L) (x_enable_x L) (x_enable_f L),way_of RM.tr (n:=20) ?_⟩
   walk_nrm
   u_in live_rely hF;rw [stepG_region_end];simp only [goes_go];refine ⟨dm_nil,?_⟩
   u_in live_rely hF;rw [stepG_region];simp only [goes_go,List.size_toArray,List.length_cons,List.length_nil,Nat.reduceAdd,Nat.zero_add,List.range,List.range.loop];refine ⟨dm_nil,?_⟩
   u_in live_rely hF;refine goes_oper_k rfl rfl (by k_ne) (fun K hK=>?_);go_simp;refine hK _ _ ⟨dm_none fun e he=>by have hm:=mem_listed he;simp [go_sem, *] at hm,?_⟩;clear hK K;try w_num
   u_in live_rely hF;refine goes_oper_k rfl rfl (by k_ne) (fun Kx hKx=>?_);have hcv:=run_convert_to_unsafe (P:=P) H.underlying_tWgP H.underlying_tUP H.room_tWg (live_cell0 hF).choose_spec;have hce:=fun es=>events_convert_to_unsafe (P:=P) H.underlying_tWgP H.underlying_tUP H.room_tWg (live_cell0 hF).choose_spec es;go_simp;refine hKx _ _ ⟨dm_none fun ex hex=>by have hmx:=mem_listed hex;simp [go_sem,hce] at hmx,?_⟩;clear hKx Kx hcv hce
   refine Goes.stop (fun w₆ h₆=>?_)
   clear h₆
   refine ⟨rfl,_,stepG_markAt .acquire (by simp) rfl rfl (by k_ne) rfl H.f_acquire (x_acquire_n L) (x_acquire_b L) (x_acquire_x L) (x_acquire_f L) (by simp [Act.eval,stA]),fun hF=>⟨40,?_⟩⟩
   walk_nrm
   u_c stepG_region_end (at_rely0 hPay) hF
   iterate 2 (u_c stepG_seq (at_rely0 hPay) hF)
   u_reg (at_rely0 hPay) hF
   u_op (at_rely0 hPay) hF
   u_c stepG_region_end (at_rely0 hPay) hF
   u_cond false (at_rely0 hPay) hF
   u_c stepG_skip (at_rely0 hPay) hF
   u_c stepG_ret' (at_rely0 hPay) hF
   u_leave0 H.f_wait (at_rely0 hPay) hF
   exact Goes.stop fun w₇ h₇=>⟨rfl,at_rely0 hPay hF h₇⟩
  ·
   refine ⟨_,stepG_cas_miss (v:=0) (old:=4294967296) (n:=4294967297) rfl rfl (by k_ne) rfl H.f_casU64 (x_casU64_n L) (x_casU64_b L) (x_casU64_x L) .u64 (x_casU64_f L) rfl rfl rfl hw.cellSt (hw.thaw 0) (by k_ne),way_of RM.tr (n:=20) ?_⟩
   clear hw
   walk_nrm
   u_in live_rely hF;refine goes_oper_k rfl rfl (by k_ne) (fun K hK=>?_);go_simp;refine hK _ _ ⟨dm_none fun e he=>by have hm:=mem_listed he;simp [go_sem, *] at hm,?_⟩;clear hK K;try w_num
   u_in live_rely hF;rw [stepG_region_end];simp only [goes_go];refine ⟨dm_nil,?_⟩
   u_in live_rely hF;rw [stepG_ret'];simp only [goes_go];refine ⟨dm_nil,?_⟩
   u_in live_rely hF;refine goes_leave1 rfl rfl H.f_uCas rfl ⟨dm_nil,?_⟩;walk_nrm
   u_in live_rely hF;rw [stepG_region_end];simp only [goes_go];refine ⟨dm_nil,?_⟩
   u_in live_rely hF;rw [stepG_cond (t:=false) rfl];simp only [goes_go,if_true,if_false,Bool.false_eq_true,↓reduceIte];refine ⟨dm_nil,?_⟩
   u_in live_rely hF;rw [stepG_skip];simp only [goes_go];refine ⟨dm_nil,?_⟩
   u_in live_rely hF;rw [stepG_inBlock];simp only [goes_go];refine ⟨dm_nil,?_⟩
   u_in live_rely hF;rw [stepG_inLoop];simp only [goes_go];refine ⟨dm_nil,?_⟩
   refine Goes.stop (fun w₃ h₃=>?_)
   exact ⟨_,rfl,by simp,by simp,live_rely hF h₃⟩
 ·
  refine ⟨_,stepG_load_atomic (v:=0) rfl rfl (by k_ne) rfl H.f_loadU64 (x_loadU64_n L) (x_loadU64_b L) (x_loadU64_x L) .u64 (x_loadU64_f L) rfl hw.cellSt,way_of RM.tr (n:=100) ?_⟩
  clear hw
  walk_nrm
  u_in live_rely hF;refine goes_oper_k rfl rfl (by k_ne) (fun K hK=>?_);go_simp;refine hK _ _ ⟨dm_none fun e he=>by have hm:=mem_listed he;simp [go_sem, *] at hm,?_⟩;clear hK K;try w_num
  u_in live_rely hF;rw [stepG_region_end];simp only [goes_go];refine ⟨dm_nil,?_⟩
  u_in live_rely hF;rw [stepG_ret'];simp only [goes_go];refine ⟨dm_nil,?_⟩
  u_in live_rely hF;refine goes_leave1 rfl rfl H.f_uLoad rfl ⟨dm_nil,?_⟩;walk_nrm
  u_in live_rely hF;refine goes_oper_k rfl rfl (by k_ne) (fun K hK=>?_);go_simp;refine hK _ _ ⟨dm_none fun e he=>by have hm:=mem_listed he;simp [go_sem, *] at hm,?_⟩;clear hK K;try w_num
  u_in live_rely hF;rw [stepG_region_end];simp only [goes_go];refine ⟨dm_nil,?_⟩
  u_in live_rely hF;rw [stepG_seq];simp only [goes_go];refine ⟨dm_nil,?_⟩
  u_in live_rely hF;rw [stepG_region];simp only [goes_go,List.size_toArray,List.length_cons,List.length_nil,Nat.reduceAdd,Nat.zero_add,List.range,List.range.loop];refine ⟨dm_nil,?_⟩
  iterate 4 (u_in live_rely hF;refine goes_oper_k rfl rfl (by k_ne) (fun K hK=>?_);go_simp;refine hK _ _ ⟨dm_none fun e he=>by have hm:=mem_listed he;simp [go_sem, *] at hm,?_⟩;clear hK K;try w_num)
  u_in live_rely hF;rw [stepG_region_end];simp only [goes_go];refine ⟨dm_nil,?_⟩
  u_in live_rely hF;rw [stepG_seq];simp only [goes_go];refine ⟨dm_nil,?_⟩
  u_in live_rely hF;rw [stepG_region];simp only [goes_go,List.size_toArray,List.length_cons,List.length_nil,Nat.reduceAdd,Nat.zero_add,List.range,List.range.loop];refine ⟨dm_nil,?_⟩
  iterate 4 (u_in live_rely hF;refine goes_oper_k rfl rfl (by k_ne) (fun K hK=>?_);go_simp;refine hK _ _ ⟨dm_none fun e he=>by have hm:=mem_listed he;simp [go_sem, *] at hm,?_⟩;clear hK K;try w_num)
  u_in live_rely hF;rw [stepG_region_end];simp only [goes_go];refine ⟨dm_nil,?_⟩
  iterate 2 (u_in live_rely hF;rw [stepG_seq];simp only [goes_go];refine ⟨dm_nil,?_⟩)
  u_in live_rely hF;rw [stepG_region];simp only [goes_go,List.size_toArray,List.length_cons,List.length_nil,Nat.reduceAdd,Nat.zero_add,List.range,List.range.loop];refine ⟨dm_nil,?_⟩
  iterate 2 (u_in live_rely hF;refine goes_oper_k rfl rfl (by k_ne) (fun K hK=>?_);go_simp;refine hK _ _ ⟨dm_none fun e he=>by have hm:=mem_listed he;simp [go_sem, *] at hm,?_⟩;clear hK K;try w_num)
  u_in live_rely hF;rw [stepG_region_end];simp only [goes_go];refine ⟨dm_nil,?_⟩
  u_in live_rely hF;rw [stepG_cond (t:=true) rfl];simp only [goes_go,if_true,if_false,Bool.false_eq_true,↓reduceIte];refine ⟨dm_nil,?_⟩
  u_in live_rely hF;rw [stepG_seq];simp only [goes_go];refine ⟨dm_nil,?_⟩
  u_in live_rely hF;rw [stepG_cond (t:=true) rfl];simp only [goes_go,if_true,if_false,Bool.false_eq_true,↓reduceIte];refine ⟨dm_nil,?_⟩
  u_in live_rely hF;rw [stepG_seq];simp only [goes_go];refine ⟨dm_nil,?_⟩
  u_in live_rely hF;rw [stepG_region];simp only [goes_go,List.size_toArray,List.length_cons,List.length_nil,Nat.reduceAdd,Nat.zero_add,List.range,List.range.loop];refine ⟨dm_nil,?_⟩
  refine Goes.stop (fun w₅ h₅=>?_)
  replace hF:=live_rely hF h₅
  clear h₅
  refine ⟨rfl,_,stepG_mark0 .enable (by simp) rfl rfl (by k_ne) rfl H.f_enable (x_enable_n L) (x_enable_b L) (x_enable_x L) (x_enable_f L),way_of RM.tr (n:=20) ?_⟩
  walk_nrm
  u_in live_rely hF;rw [stepG_region_end];simp only [goes_go];refine ⟨dm_nil,?_⟩
  u_in live_rely hF;rw [stepG_region];simp only [goes_go,List.size_toArray,List.length_cons,List.length_nil,Nat.reduceAdd,Nat.zero_add,List.range,List.range.loop];refine ⟨dm_nil,?_⟩
  u_in live_rely hF;refine goes_oper_k rfl rfl (by k_ne) (fun K hK=>?_);go_simp;refine hK _ _ ⟨dm_none fun e he=>by have hm:=mem_listed he;simp [go_sem, *] at hm,?_⟩;clear hK K;try w_num
  u_in live_rely hF;refine goes_oper_k rfl rfl (by k_ne) (fun Kx hKx=>?_);have hcv:=run_convert_to_unsafe (P:=P) H.underlying_tWgP H.underlying_tUP H.room_tWg (live_cell0 hF).choose_spec;have hce:=fun es=>events_convert_to_unsafe (P:=P) H.underlying_tWgP H.underlying_tUP H.room_tWg (live_cell0 hF).choose_spec es;go_simp;refine hKx _ _ ⟨dm_none fun ex hex=>by have hmx:=mem_listed hex;simp [go_sem,hce] at hmx,?_⟩;clear hKx Kx hcv hce
  refine Goes.stop (fun w₆ h₆=>?_)
  clear h₆
  refine ⟨rfl,_,stepG_markAt .acquire (by simp) rfl rfl (by k_ne) rfl H.f_acquire (x_acquire_n L) (x_acquire_b L) (x_acquire_x L) (x_acquire_f L) (by simp [Act.eval,stA]),fun hF=>⟨60,?_⟩⟩
  walk_nrm
  u_c stepG_region_end (at_rely0 hPay) hF
  iterate 2 (u_c stepG_seq (at_rely0 hPay) hF)
  u_reg (at_rely0 hPay) hF
  iterate 8 (u_op (at_rely0 hPay) hF)
  iterate 2 (u_skip (at_rely0 hPay) hF)
  u_op (at_rely0 hPay) hF
  u_c stepG_region_end (at_rely0 hPay) hF
  u_cond false (at_rely0 hPay) hF
  u_c stepG_skip (at_rely0 hPay) hF
  u_c stepG_ret' (at_rely0 hPay) hF
  u_leave0 H.f_wait (at_rely0 hPay) hF
  exact Goes.stop fun w₇ h₇=>⟨rfl,at_rely0 hPay hF h₇⟩
set_option maxRecDepth 100000 in
theorem waitStart' (H:WgLib P L) (w:World) (hF:Live L.tWg Wg w) :
 WM P L.tWg Wg Keep (MKd P L.tWg Wg Keep (HeadW L Wg (b₀.at a₀ (.inRegion ops₀ (i₀ :: rest₀) :: k₀)) cs)) (G ((base L.wait).at ⟨#[.pointer (some ⟨Wg,0,none⟩)] ++ Array.replicate 83 undef,[]⟩ [.code (body_wait L)]) (b₀.at a₀ (.inRegion ops₀ (i₀ :: rest₀) :: k₀) :: cs)) w:=by
 lib_facts
 refine way_of RM.tr (n:=3) ?_
 simp only [body_wait,waitFn,Option.getD_some]
 u_in live_rely hF;rw [stepG_seq];simp only [goes_go];refine ⟨dm_nil,?_⟩
 u_in live_rely hF;rw [stepG_cond (t:=true) rfl];simp only [goes_go,if_true,if_false,Bool.false_eq_true,↓reduceIte];refine ⟨dm_nil,?_⟩
 u_in live_rely hF;rw [stepG_region];simp only [goes_go,List.size_toArray,List.length_cons,List.length_nil,Nat.reduceAdd,Nat.zero_add,List.range,List.range.loop];refine ⟨dm_nil,?_⟩
 refine Goes.stop (fun w₁ h₁=>?_)
 replace hF:=live_rely hF h₁
 clear h₁
 refine ⟨rfl,_,stepG_mark0 .disable (by simp) rfl rfl (by k_ne) rfl H.f_disable (x_disable_n L) (x_disable_b L) (x_disable_x L) (x_disable_f L),way_of RM.tr (n:=3) ?_⟩
 walk_nrm
 u_in live_rely hF;rw [stepG_region_end];simp only [goes_go];refine ⟨dm_nil,?_⟩
 u_in live_rely hF;rw [stepG_block];simp only [goes_go];refine ⟨dm_nil,?_⟩
 u_in live_rely hF;rw [stepG_loop];simp only [goes_go];refine ⟨dm_nil,?_⟩
 exact Goes.stop (fun w₂ h₂=>⟨_,rfl,by simp,by simp,live_rely hF h₂⟩)
theorem headW_run {c:Frame} {g:Goroutine} {w:World} (h:HeadW L Wg c cs g w):g.status = .running:=by obtain ⟨T,rfl,_⟩:=h;rfl
end
section
open Conc Conc.Lib RowKit
open Go.ConcX (stA smA OfWg WgAt KK rd wr mk RCa RCd KCa DC0 WgAt.setSt WgAt.setSm WgAt.of_block WgAt.cellSt WgAt.cellSm WgAt.thaw)
open Go.ConcX.Gen
variable {L:WgLink} {P:Program} {Sh:Loc → Prop} {Wg:Nat} {Keep:Nat → Prop} {Pay:World → Prop}
theorem dl_none {w:World} {es:Array Event} (h:∀ e ∈ es,False):DL Sh Wg w w es:=⟨Nat.le_refl _,fun e he=>(h e he).elim⟩
theorem dl_nil {w:World}:DL Sh Wg w w #[]:=dl_none (by simp)
def MMark (P:Program) (m:Mark) (Next:Goroutine → World → Prop) (a:Goroutine) (w:World):Prop:=a.status = .running ∧ ∃ a',stepG P true a w = .go a' w #[mk m] ∧ Next a' w
abbrev WL (P:Program) (Sh:Loc → Prop) (Wg:Nat) (Stop:Stops):Goroutine → World → Prop:=Way P true AtRel (DL Sh Wg) Stop
theorem lt_atomic {B:Nat} {a:Addr} (x:Bool) (h:a.block = Wg) (hB:Wg < B):EvLT Sh Wg B ⟨.cell a,x,true⟩:=by
 refine ⟨fun y hy=>?_,by rw [Go.ConcX.ofEvent_cell];simp,by rw [Go.ConcX.ofEvent_cell];show a.block < B;omega⟩
 rw [Go.ConcX.ofEvent_cell] at hy
 simp only [MemAct.touch?,Option.some.injEq] at hy
 subst hy
 exact ⟨fun _=>by simp,fun _=>by simp⟩
theorem lt_read {B:Nat} {a:Addr} (h:a.block = Wg) (hB:Wg < B):EvLT Sh Wg B ⟨.mark (.read a),false,true⟩:=by
 refine ⟨fun y hy=>?_,by simp [MemAct.ofEvent],by show a.block < B;omega⟩
 simp only [MemAct.ofEvent,MemAct.touch?,Option.some.injEq] at hy
 subst hy
 exact ⟨fun _=>by simp,fun _=>by simp⟩
theorem lt_cell {B:Nat} {a:Addr} (x:Bool) (h:a.block ≠ Wg) (hs:¬ Sh (.cell a)) (hB:a.block < B):EvLT Sh Wg B ⟨.cell a,x,false⟩:=by
 refine ⟨fun y hy=>?_,by rw [Go.ConcX.ofEvent_cell];simp,by rw [Go.ConcX.ofEvent_cell];exact hB⟩
 rw [Go.ConcX.ofEvent_cell] at hy
 simp only [MemAct.touch?,Option.some.injEq] at hy
 subst hy
 exact ⟨fun e=>absurd e hs,fun ⟨z,hz,hb⟩=>by cases hz;exact absurd hb h⟩
theorem lone_rely {w0 w w₁:World} (h:AtRel w0 w) (r:AtRel w w₁):AtRel w0 w₁:=atRel_tr _ _ _ h r
variable {b₀:Frame} {a₀:Act} {ops₀:Array Oper} {i₀:Nat} {rest₀:List Nat} {k₀:List Item} {cs:List Frame} {StopG:Goroutine → World → Prop}
set_option maxRecDepth 100000 in
set_option maxHeartbeats 8000000 in
theorem addWay (H:WgLib P L) {w0:World} (hw:WgAt L.tWg Wg w0 0 0)
 (hT:∀ w,AtRel (w0.setCell (stA Wg) (.int .u64 KK)) w → WL P Sh Wg StopG (G (b₀.at (a₀.put ((ops₀[i₀]?).bind (·.dst)) (.tuple #[])) (.inRegion ops₀ rest₀ :: k₀)) cs) w) (w:World) (hF:AtRel w0 w) :
 WL P Sh Wg (MMark P .disable (WL P Sh Wg (MMark P .enable (WL P Sh Wg StopG)))) (G ((base L.add).at ⟨#[.pointer (some ⟨Wg,0,none⟩),.int .i64 1,undef,undef,undef,undef,undef,undef,undef,undef,undef,undef,undef,undef,undef,undef,undef,undef,undef,undef,undef,undef,undef,undef,undef,undef,undef,undef,undef,undef,undef,undef,undef,undef,undef,undef,undef,undef,undef,undef,undef,undef,undef,undef,undef,undef,undef,undef,undef,undef,undef,undef,undef,undef,undef,undef,undef,undef,undef,undef,undef,undef,undef,undef,undef,undef,undef,undef,undef,undef,undef,undef,undef,undef,undef,undef,undef,undef,undef,undef,undef,undef,undef,undef,undef,undef,undef,undef,undef,undef,undef,undef,undef,undef,undef,undef,undef,undef,undef,undef,undef,undef,undef,undef,undef,undef,undef,undef,undef,undef,undef,undef,undef,undef,undef,undef,undef],[]⟩ [.code (body_add L)]) (b₀.at a₀ (.inRegion ops₀ (i₀ :: rest₀) :: k₀) :: cs)) w:=by
 lib_facts
 simp only [body_add,addFn,Option.getD_some]
 refine way_of atRel_tr (n:=30) ?_
 u_in lone_rely hF;rw [stepG_seq];simp only [goes_go];refine ⟨dl_nil,?_⟩
 u_in lone_rely hF;rw [stepG_cond (t:=true) rfl];simp only [goes_go,if_true,if_false,Bool.false_eq_true,↓reduceIte];refine ⟨dl_nil,?_⟩
 iterate 2 (u_in lone_rely hF;rw [stepG_seq];simp only [goes_go];refine ⟨dl_nil,?_⟩)
 u_in lone_rely hF;rw [stepG_region];simp only [goes_go,List.size_toArray,List.length_cons,List.length_nil,Nat.reduceAdd,Nat.zero_add,List.range,List.range.loop];refine ⟨dl_nil,?_⟩
 iterate 2 (u_in lone_rely hF;refine goes_oper_k rfl rfl (by k_ne) (fun K hK=>?_);go_simp;refine hK _ _ ⟨dl_none fun e he=>by have hm:=mem_listed he;simp [go_sem, *] at hm,?_⟩;clear hK K;try w_num)
 u_in lone_rely hF;rw [stepG_region_end];simp only [goes_go];refine ⟨dl_nil,?_⟩
 u_in lone_rely hF;rw [stepG_cond (t:=false) rfl];simp only [goes_go,if_true,if_false,Bool.false_eq_true,↓reduceIte];refine ⟨dl_nil,?_⟩
 u_in lone_rely hF;rw [stepG_skip];simp only [goes_go];refine ⟨dl_nil,?_⟩
 u_in lone_rely hF;rw [stepG_seq];simp only [goes_go];refine ⟨dl_nil,?_⟩
 u_in lone_rely hF;rw [stepG_region];simp only [goes_go,List.size_toArray,List.length_cons,List.length_nil,Nat.reduceAdd,Nat.zero_add,List.range,List.range.loop];refine ⟨dl_nil,?_⟩
 refine Goes.stop (fun w₁ h₁=>?_)
 replace hF:=lone_rely hF h₁
 clear h₁
 refine ⟨rfl,_,stepG_mark0 .disable (by simp) rfl rfl (by k_ne) rfl H.f_disable (x_disable_n L) (x_disable_b L) (x_disable_x L) (x_disable_f L),?_⟩
 walk_nrm
 refine way_of atRel_tr (n:=200) ?_
 u_in lone_rely hF;rw [stepG_region_end];simp only [goes_go];refine ⟨dl_nil,?_⟩
 u_in lone_rely hF;rw [stepG_region];simp only [goes_go,List.size_toArray,List.length_cons,List.length_nil,Nat.reduceAdd,Nat.zero_add,List.range,List.range.loop];refine ⟨dl_nil,?_⟩
 u_in lone_rely hF;rw [stepG_defer rfl rfl (by k_ne) rfl];simp only [goes_go];refine ⟨dl_nil,?_⟩;walk_nrm
 u_in lone_rely hF;rw [stepG_region_end];simp only [goes_go];refine ⟨dl_nil,?_⟩
 u_in lone_rely hF;rw [stepG_seq];simp only [goes_go];refine ⟨dl_nil,?_⟩
 u_in lone_rely hF;rw [stepG_region];simp only [goes_go,List.size_toArray,List.length_cons,List.length_nil,Nat.reduceAdd,Nat.zero_add,List.range,List.range.loop];refine ⟨dl_nil,?_⟩
 u_in lone_rely hF;refine goes_oper_k rfl rfl (by k_ne) (fun K hK=>?_);go_simp;refine hK _ _ ⟨dl_none fun e he=>by have hm:=mem_listed he;simp [go_sem, *] at hm,?_⟩;clear hK K;try w_num
 u_in lone_rely hF;rw [stepG_region_end];simp only [goes_go];refine ⟨dl_nil,?_⟩
 iterate 2 (u_in lone_rely hF;rw [stepG_seq];simp only [goes_go];refine ⟨dl_nil,?_⟩)
 u_in lone_rely hF;rw [stepG_region];simp only [goes_go,List.size_toArray,List.length_cons,List.length_nil,Nat.reduceAdd,Nat.zero_add,List.range,List.range.loop];refine ⟨dl_nil,?_⟩
 u_in lone_rely hF;rw [stepG_entry_pure (.bool false) rfl rfl (by k_ne) rfl H.f_inBubble (x_inBubble_n L) (x_inBubble_b L) (x_inBubble_x L) (x_inBubble_f L)];simp only [goes_go];refine ⟨dl_nil,?_⟩;walk_nrm
 u_in lone_rely hF;rw [stepG_region_end];simp only [goes_go];refine ⟨dl_nil,?_⟩
 u_in lone_rely hF;rw [stepG_cond (t:=false) rfl];simp only [goes_go,if_true,if_false,Bool.false_eq_true,↓reduceIte];refine ⟨dl_nil,?_⟩
 u_in lone_rely hF;rw [stepG_skip];simp only [goes_go];refine ⟨dl_nil,?_⟩
 u_in lone_rely hF;rw [stepG_seq];simp only [goes_go];refine ⟨dl_nil,?_⟩
 u_in lone_rely hF;rw [stepG_region];simp only [goes_go,List.size_toArray,List.length_cons,List.length_nil,Nat.reduceAdd,Nat.zero_add,List.range,List.range.loop];refine ⟨dl_nil,?_⟩
 iterate 6 (u_in lone_rely hF;refine goes_oper_k rfl rfl (by k_ne) (fun K hK=>?_);go_simp;refine hK _ _ ⟨dl_none fun e he=>by have hm:=mem_listed he;simp [go_sem, *] at hm,?_⟩;clear hK K;try w_num)
 u_in lone_rely hF;refine goes_call rfl rfl (by k_ne) rfl H.f_uAdd (nm_uAdd L) rfl ⟨dl_nil,?_⟩;walk_nrmf uAddFn
 u_in lone_rely hF;rw [stepG_seq];simp only [goes_go];refine ⟨dl_nil,?_⟩
 u_in lone_rely hF;rw [stepG_region];simp only [goes_go,List.size_toArray,List.length_cons,List.length_nil,Nat.reduceAdd,Nat.zero_add,List.range,List.range.loop];refine ⟨dl_nil,?_⟩
 u_in lone_rely hF;refine goes_oper_k rfl rfl (by k_ne) (fun K hK=>?_);go_simp;refine hK _ _ ⟨dl_none fun e he=>by have hm:=mem_listed he;simp [go_sem, *] at hm,?_⟩;clear hK K;try w_num
 u_in lone_rely hF;rw [stepG_region_end];simp only [goes_go];refine ⟨dl_nil,?_⟩
 u_in lone_rely hF;rw [stepG_seq];simp only [goes_go];refine ⟨dl_nil,?_⟩
 u_in lone_rely hF;rw [stepG_region];simp only [goes_go,List.size_toArray,List.length_cons,List.length_nil,Nat.reduceAdd,Nat.zero_add,List.range,List.range.loop];refine ⟨dl_nil,?_⟩
 iterate 4 (u_in lone_rely hF;refine goes_oper_k rfl rfl (by k_ne) (fun K hK=>?_);go_simp;refine hK _ _ ⟨dl_none fun e he=>by have hm:=mem_listed he;simp [go_sem, *] at hm,?_⟩;clear hK K;try w_num)
 refine Goes.step rfl (fun w₁ h₁=>?_)
 replace hF:=lone_rely hF h₁
 clear h₁
 obtain ⟨dd,rfl⟩:=hF
 have hwd:WgAt L.tWg Wg (w0.at dd) 0 0:=hw
 rw [stepG_add_atomic rfl rfl (by k_ne) rfl H.f_addU64 (x_addU64_n L) (x_addU64_b L) (x_addU64_x L) .u64 (x_addU64_f L) rfl rfl hwd.cellSt (hwd.thaw 0)]
 simp only [goes_go]
 have hA:=aside_setCell w0 (stA Wg) (.int .u64 KK)
 have hlt:Wg < (w0.setCell (stA Wg) (.int .u64 KK)).heap.size:=by rw [hA.size];exact wg_lt hw
 have e0:IntKind.u64.wrap (0 + 4294967296) = KK:=by decide
 rw [e0]
 refine ⟨⟨?_,fun e he=>?_⟩,?_⟩
 ·exact Nat.le_of_eq (aside_setCell (w0.at dd) (stA Wg) (.int .u64 KK)).size.symm
 ·simp at he
  have hl2:Wg < ((w0.at dd).setCell (stA Wg) (.int .u64 KK)).heap.size:=hlt
  rcases he with rfl | rfl <;> exact ⟨lt_atomic _ rfl hl2,by simp,by simp⟩
 have hF:AtRel (w0.setCell (stA Wg) (.int .u64 KK)) ((w0.at dd).setCell (stA Wg) (.int .u64 KK)):=⟨dd,rfl⟩
 have hw1:=hw.setSt KK
 clear hwd
 generalize (w0.at dd).setCell (stA Wg) (.int .u64 KK) = w at hF
 simp only [KK] at hw1 ⊢
 walk_nrm
 u_in lone_rely hF;refine goes_oper_k rfl rfl (by k_ne) (fun K hK=>?_);go_simp;refine hK _ _ ⟨dl_none fun e he=>by have hm:=mem_listed he;simp [go_sem, *] at hm,?_⟩;clear hK K;try w_num
 u_in lone_rely hF;rw [stepG_region_end];simp only [goes_go];refine ⟨dl_nil,?_⟩
 u_in lone_rely hF;rw [stepG_ret'];simp only [goes_go];refine ⟨dl_nil,?_⟩
 u_in lone_rely hF;refine goes_leave1 rfl rfl H.f_uAdd rfl ⟨dl_nil,?_⟩;walk_nrm
 u_in lone_rely hF;refine goes_oper_k rfl rfl (by k_ne) (fun K hK=>?_);go_simp;refine hK _ _ ⟨dl_none fun e he=>by have hm:=mem_listed he;simp [go_sem, *] at hm,?_⟩;clear hK K;try w_num
 u_in lone_rely hF;rw [stepG_region_end];simp only [goes_go];refine ⟨dl_nil,?_⟩
 iterate 2 (u_in lone_rely hF;rw [stepG_seq];simp only [goes_go];refine ⟨dl_nil,?_⟩)
 u_in lone_rely hF;rw [stepG_region];simp only [goes_go,List.size_toArray,List.length_cons,List.length_nil,Nat.reduceAdd,Nat.zero_add,List.range,List.range.loop];refine ⟨dl_nil,?_⟩
 iterate 4 (u_in lone_rely hF;refine goes_oper_k rfl rfl (by k_ne) (fun K hK=>?_);go_simp;refine hK _ _ ⟨dl_none fun e he=>by have hm:=mem_listed he;simp [go_sem, *] at hm,?_⟩;clear hK K;try w_num)
 iterate 2 (u_in lone_rely hF;rw [stepG_unwanted rfl rfl];simp only [goes_go];refine ⟨dl_nil,?_⟩;walk_nrm)
 u_in lone_rely hF;refine goes_oper_k rfl rfl (by k_ne) (fun K hK=>?_);go_simp;refine hK _ _ ⟨dl_none fun e he=>by have hm:=mem_listed he;simp [go_sem, *] at hm,?_⟩;clear hK K;try w_num
 u_in lone_rely hF;rw [stepG_region_end];simp only [goes_go];refine ⟨dl_nil,?_⟩
 u_in lone_rely hF;rw [stepG_cond (t:=false) rfl];simp only [goes_go,if_true,if_false,Bool.false_eq_true,↓reduceIte];refine ⟨dl_nil,?_⟩
 u_in lone_rely hF;rw [stepG_skip];simp only [goes_go];refine ⟨dl_nil,?_⟩
 u_in lone_rely hF;rw [stepG_seq];simp only [goes_go];refine ⟨dl_nil,?_⟩
 u_in lone_rely hF;rw [stepG_region];simp only [goes_go,List.size_toArray,List.length_cons,List.length_nil,Nat.reduceAdd,Nat.zero_add,List.range,List.range.loop];refine ⟨dl_nil,?_⟩
 iterate 4 (u_in lone_rely hF;refine goes_oper_k rfl rfl (by k_ne) (fun K hK=>?_);go_simp;refine hK _ _ ⟨dl_none fun e he=>by have hm:=mem_listed he;simp [go_sem, *] at hm,?_⟩;clear hK K;try w_num)
 u_in lone_rely hF;rw [stepG_region_end];simp only [goes_go];refine ⟨dl_nil,?_⟩
 u_in lone_rely hF;rw [stepG_seq];simp only [goes_go];refine ⟨dl_nil,?_⟩
 u_in lone_rely hF;rw [stepG_region];simp only [goes_go,List.size_toArray,List.length_cons,List.length_nil,Nat.reduceAdd,Nat.zero_add,List.range,List.range.loop];refine ⟨dl_nil,?_⟩
 iterate 4 (u_in lone_rely hF;refine goes_oper_k rfl rfl (by k_ne) (fun K hK=>?_);go_simp;refine hK _ _ ⟨dl_none fun e he=>by have hm:=mem_listed he;simp [go_sem, *] at hm,?_⟩;clear hK K;try w_num)
 u_in lone_rely hF;rw [stepG_region_end];simp only [goes_go];refine ⟨dl_nil,?_⟩
 iterate 2 (u_in lone_rely hF;rw [stepG_seq];simp only [goes_go];refine ⟨dl_nil,?_⟩)
 u_in lone_rely hF;rw [stepG_region];simp only [goes_go,List.size_toArray,List.length_cons,List.length_nil,Nat.reduceAdd,Nat.zero_add,List.range,List.range.loop];refine ⟨dl_nil,?_⟩
 iterate 10 (u_in lone_rely hF;refine goes_oper_k rfl rfl (by k_ne) (fun K hK=>?_);go_simp;refine hK _ _ ⟨dl_none fun e he=>by have hm:=mem_listed he;simp [go_sem, *] at hm,?_⟩;clear hK K;try w_num)
 u_in lone_rely hF;rw [stepG_region_end];simp only [goes_go];refine ⟨dl_nil,?_⟩
 u_in lone_rely hF;rw [stepG_cond (t:=true) rfl];simp only [goes_go,if_true,if_false,Bool.false_eq_true,↓reduceIte];refine ⟨dl_nil,?_⟩
 u_in lone_rely hF;rw [stepG_region];simp only [goes_go,List.size_toArray,List.length_cons,List.length_nil,Nat.reduceAdd,Nat.zero_add,List.range,List.range.loop];refine ⟨dl_nil,?_⟩
 iterate 3 (u_in lone_rely hF;refine goes_oper_k rfl rfl (by k_ne) (fun K hK=>?_);go_simp;refine hK _ _ ⟨dl_none fun e he=>by have hm:=mem_listed he;simp [go_sem, *] at hm,?_⟩;clear hK K;try w_num)
 have live:∀ {w},AtRel (w0.setCell (stA Wg) (.int .u64 KK)) w → WgAt L.tWg Wg w KK 0:=by rintro w ⟨d,rfl⟩;exact hw.setSt KK
 have live':∀ {w},AtRel (w0.setCell (stA Wg) (.int .u64 KK)) w → Live L.tWg Wg w:=fun h=>⟨_,_,live h⟩
 u_in lone_rely hF;refine goes_oper_k rfl rfl (by k_ne) (fun Kx hKx=>?_);have hcv:=run_convert_to_unsafe (P:=P) H.underlying_tPU32 H.underlying_tUP H.room_tU32 (live_cell1 (live' hF)).choose_spec;have hce:=fun es=>events_convert_to_unsafe (P:=P) H.underlying_tPU32 H.underlying_tUP H.room_tU32 (live_cell1 (live' hF)).choose_spec es;go_simp;refine hKx _ _ ⟨dl_none fun ex hex=>by have hmx:=mem_listed hex;simp [go_sem,hce] at hmx,?_⟩;clear hKx Kx hcv hce
 u_in lone_rely hF
 rw [stepG_markAt .read (by simp) rfl rfl (by k_ne) rfl H.f_raceRead (x_raceRead_n L) (x_raceRead_b L) (x_raceRead_x L) (x_raceRead_f L) (ad:=⟨Wg,1,none⟩) (by simp [Act.eval])]
 simp only [goes_go]
 refine ⟨⟨Nat.le_refl _,fun e he=>?_⟩,?_⟩
 ·rw [Array.mem_singleton] at he
  subst he
  exact ⟨lt_read rfl (wg_lt (live hF)),by simp,by simp⟩
 walk_nrm
 u_in lone_rely hF;rw [stepG_region_end];simp only [goes_go];refine ⟨dl_nil,?_⟩
 iterate 2 (u_in lone_rely hF;rw [stepG_seq];simp only [goes_go];refine ⟨dl_nil,?_⟩)
 u_in lone_rely hF;rw [stepG_region];simp only [goes_go,List.size_toArray,List.length_cons,List.length_nil,Nat.reduceAdd,Nat.zero_add,List.range,List.range.loop];refine ⟨dl_nil,?_⟩
 iterate 2 (u_in lone_rely hF;refine goes_oper_k rfl rfl (by k_ne) (fun K hK=>?_);go_simp;refine hK _ _ ⟨dl_none fun e he=>by have hm:=mem_listed he;simp [go_sem, *] at hm,?_⟩;clear hK K;try w_num)
 u_in lone_rely hF;rw [stepG_region_end];simp only [goes_go];refine ⟨dl_nil,?_⟩
 u_in lone_rely hF;rw [stepG_cond (t:=false) rfl];simp only [goes_go,if_true,if_false,Bool.false_eq_true,↓reduceIte];refine ⟨dl_nil,?_⟩
 u_in lone_rely hF;rw [stepG_skip];simp only [goes_go];refine ⟨dl_nil,?_⟩
 iterate 2 (u_in lone_rely hF;rw [stepG_seq];simp only [goes_go];refine ⟨dl_nil,?_⟩)
 u_in lone_rely hF;rw [stepG_region];simp only [goes_go,List.size_toArray,List.length_cons,List.length_nil,Nat.reduceAdd,Nat.zero_add,List.range,List.range.loop];refine ⟨dl_nil,?_⟩
 iterate 3 (u_in lone_rely hF;refine goes_oper_k rfl rfl (by k_ne) (fun K hK=>?_);go_simp;refine hK _ _ ⟨dl_none fun e he=>by have hm:=mem_listed he;simp [go_sem, *] at hm,?_⟩;clear hK K;try w_num)
 iterate 2 (u_in lone_rely hF;rw [stepG_unwanted rfl rfl];simp only [goes_go];refine ⟨dl_nil,?_⟩;walk_nrm)
 iterate 2 (u_in lone_rely hF;refine goes_oper_k rfl rfl (by k_ne) (fun K hK=>?_);go_simp;refine hK _ _ ⟨dl_none fun e he=>by have hm:=mem_listed he;simp [go_sem, *] at hm,?_⟩;clear hK K;try w_num)
 iterate 4 (u_in lone_rely hF;rw [stepG_unwanted rfl rfl];simp only [goes_go];refine ⟨dl_nil,?_⟩;walk_nrm)
 u_in lone_rely hF;refine goes_oper_k rfl rfl (by k_ne) (fun K hK=>?_);go_simp;refine hK _ _ ⟨dl_none fun e he=>by have hm:=mem_listed he;simp [go_sem, *] at hm,?_⟩;clear hK K;try w_num
 u_in lone_rely hF;rw [stepG_region_end];simp only [goes_go];refine ⟨dl_nil,?_⟩
 u_in lone_rely hF;rw [stepG_cond (t:=false) rfl];simp only [goes_go,if_true,if_false,Bool.false_eq_true,↓reduceIte];refine ⟨dl_nil,?_⟩
 u_in lone_rely hF;rw [stepG_skip];simp only [goes_go];refine ⟨dl_nil,?_⟩
 iterate 2 (u_in lone_rely hF;rw [stepG_seq];simp only [goes_go];refine ⟨dl_nil,?_⟩)
 u_in lone_rely hF;rw [stepG_region];simp only [goes_go,List.size_toArray,List.length_cons,List.length_nil,Nat.reduceAdd,Nat.zero_add,List.range,List.range.loop];refine ⟨dl_nil,?_⟩
 iterate 3 (u_in lone_rely hF;refine goes_oper_k rfl rfl (by k_ne) (fun K hK=>?_);go_simp;refine hK _ _ ⟨dl_none fun e he=>by have hm:=mem_listed he;simp [go_sem, *] at hm,?_⟩;clear hK K;try w_num)
 iterate 2 (u_in lone_rely hF;rw [stepG_unwanted rfl rfl];simp only [goes_go];refine ⟨dl_nil,?_⟩;walk_nrm)
 u_in lone_rely hF;refine goes_oper_k rfl rfl (by k_ne) (fun K hK=>?_);go_simp;refine hK _ _ ⟨dl_none fun e he=>by have hm:=mem_listed he;simp [go_sem, *] at hm,?_⟩;clear hK K;try w_num
 u_in lone_rely hF;rw [stepG_region_end];simp only [goes_go];refine ⟨dl_nil,?_⟩
 u_in lone_rely hF;rw [stepG_cond (t:=true) rfl];simp only [goes_go,if_true,if_false,Bool.false_eq_true,↓reduceIte];refine ⟨dl_nil,?_⟩
 u_in lone_rely hF;rw [stepG_ret'];simp only [goes_go];refine ⟨dl_nil,?_⟩
 refine Goes.stop (fun w₁ h₁=>?_)
 replace hF:=lone_rely hF h₁
 clear h₁
 refine ⟨rfl,_,stepG_unwind_entry (v:=.tuple #[]) (evs:=#[mk .enable]) rfl H.f_enable (x_enable_n L) (x_enable_b L) (x_enable_x L) (x_enable_f L) (by simp [Extern.Race.none_]) (by simp [mk]) (by simp [mk]),?_⟩
 refine Way.trans AtRel.refl atRel_tr (Stop:=fun g w=>g = G (b₀.at (a₀.put ((ops₀[i₀]?).bind (·.dst)) (.tuple #[])) (.inRegion ops₀ rest₀ :: k₀)) cs ∧ AtRel (w0.setCell (stA Wg) (.int .u64 KK)) w) (way_of atRel_tr (n:=3) ?_) (fun g w h=>by obtain ⟨rfl,h⟩:=h;exact hT w h)
 u_in lone_rely hF;refine goes_leave0 rfl rfl H.f_add rfl ⟨dl_nil,?_⟩;walk_nrm
 exact Goes.stop fun w₃ h₃=>⟨rfl,lone_rely hF h₃⟩
end
section
open Conc Conc.Lib RowKit
open Go.ConcX (stA smA OfWg WgAt KK rd wr mk RCa RCd KCa DC0 DCs AtR0 Full Payload Shy ShJ)
open Go.ConcX.Gen
section
variable {P:Program} {main:Bool} {R R':Rel} {D D':Grd} {Stop:Stops} {g:Goroutine} {w:World}
theorem Way.weakenI (I:World → Prop) (hR:∀ a b,I a → R' a b → R a b) (iR:∀ a b,R' a b → I a → I b) (iD:∀ a b es,D a b es → I a → I b) (hD:∀ a b es,I a → D a b es → D' a b es) (h:Way P main R D Stop g w) (hI:I w) :
 Way P main R' D' (fun g w=>Stop g w ∧ I w) g w:=by
 induction h with
 | stop h=>exact .stop fun w₁ h₁=>⟨h w₁ (hR _ _ hI h₁),iR _ _ h₁ hI⟩
 | step hs h _ ih=>
  refine .step hs (fun w₁ h₁=>?_) fun w₁ g' w' es h₁ e=>?_
  ·obtain ⟨g',w',es,e,d⟩:=h w₁ (hR _ _ hI h₁)
   exact ⟨g',w',es,e,hD _ _ _ (iR _ _ h₁ hI) d⟩
  ·obtain ⟨g₂,w₂,es₂,e₂,d⟩:=h w₁ (hR _ _ hI h₁)
   rw [e] at e₂;cases e₂
   exact ih w₁ g' w' es (hR _ _ hI h₁) e (iD _ _ _ d (iR _ _ h₁ hI))
end
variable {L:WgLink} {P:Program} {Sh:Loc → Prop} {Wg:Nat} {Keep:Nat → Prop} {Pay:World → Prop}
def okK (Sh:Loc → Prop) (Wg:Nat) (Keep:Nat → Prop) (B:Nat) (act:MemAct):Prop:=
 (∀ x,act.touch? = some x → (x.kind = .plain ∧ (Ow Sh Wg Keep x.loc ∨ (KpW Keep x.loc ∧ x.write = false))) ∨ OfWg Wg x.loc) ∧ act.low B
@[reducible] def shyK (Sh:Loc → Prop) (Wg:Nat) (Keep:Nat → Prop) (B C:Nat) (hW:Wg < B) (hC:C < B) (hCW:C ≠ Wg) (hCK:¬ Keep C) (hCS:∀ a:Addr,a.block = C → ¬ Sh (.cell a)):Shy Wg C where
 ok:=okK Sh Wg Keep B
 atomicWg a wr h:=⟨fun x hx=>by simp only [MemAct.touch?,Option.some.injEq] at hx;subst hx;exact .inr ⟨a,rfl,h⟩,by show a.block < B;omega⟩
 readWg a h:=⟨fun x hx=>by simp only [MemAct.touch?,Option.some.injEq] at hx;subst hx;exact .inr ⟨a,rfl,h⟩,by show a.block < B;omega⟩
 writeWg a h:=⟨fun x hx=>by simp only [MemAct.touch?,Option.some.injEq] at hx;subst hx;exact .inr ⟨a,rfl,h⟩,by show a.block < B;omega⟩
 theirs a wr h:=⟨fun x hx=>by simp only [MemAct.touch?,Option.some.injEq] at hx;subst hx;exact .inl ⟨by simp,.inl ⟨a,rfl,by omega,by rw [h];exact hCK,hCS a h⟩⟩,by show a.block < B;omega⟩
 disable:=⟨fun x hx=>(by cases hx),trivial⟩
 enable:=⟨fun x hx=>(by cases hx),trivial⟩
 relMerge:=⟨fun x hx=>(by cases hx),hW⟩
 acquire:=⟨fun x hx=>(by cases hx),hW⟩
 go1:=⟨fun x hx=>(by cases hx),trivial⟩
 start:=⟨fun x hx=>(by cases hx),trivial⟩
 stop _ _:=True
theorem kca_lt {ty:TypeId} {w:World} (h:KCa ty Wg w):Wg < w.heap.size:=h.elim wg_lt wg_lt
variable {b₀:Frame} {a₀:Act} {ops₀:Array Oper} {i₀:Nat} {rest₀:List Nat} {k₀:List Item} {cs:List Frame} {qt:Nat}
set_option maxRecDepth 100000 in
theorem doneGoes [Payload] (H:WgLib P L) {Mine:Loc → Prop} {C Low:Nat} [Shy Wg C] {vals:List Value} (hW:Wg < Low) (hC:C < Low) (hCW:C ≠ Wg)
 (hT:QuitsD P qt 0 (G (b₀.at (a₀.put ((ops₀[i₀]?).bind (·.dst)) (.tuple #[])) (.inRegion ops₀ rest₀ :: k₀)) cs)) (w:World) (hK:KCa L.tWg Wg w ∧ Full C vals w) :
 Goes P false (RCa L.tWg Wg Low) (DCs Mine Wg C) (AtR0 P L.tWg Wg C Low vals) 25 (G ((base L.done).at ⟨#[.pointer (some ⟨Wg,0,none⟩),undef,undef,undef],[]⟩ [.code (body_done L)]) (b₀.at a₀ (.inRegion ops₀ (i₀ :: rest₀) :: k₀) :: cs)) w:=by
 lib_facts
 have hA:=@addNeg _ L P H Mine Wg C Low _ vals hW hC hCW
 simp only [body_done,body_add,doneFn,addFn,Option.getD_some] at hA ⊢
 u_reg (ka_rely hC hCW) hK
 u_op (ka_rely hC hCW) hK
 u_call H.f_add (nm_add L) addFn (ka_rely hC hCW) hK
 refine Goes.mono (hA (qt:=qt + 3) ?_ _ hK) (by omega)
 q_c stepG_region_end
 q_c stepG_end
 exact QuitsD.leave0 rfl rfl H.f_done rfl hT
theorem doneWay (H:WgLib P L) {C Low:Nat} (hW:Wg < Low) (hC:C < Low) (hCW:C ≠ Wg) (hCK:¬ Keep C) (hCS:∀ a:Addr,a.block = C → ¬ Sh (.cell a))
 (hPay:∀ w w',Aside Wg w w' → Pay w → Pay w') (hPayC:∀ w w',Aside C w w' → Pay w → Pay w')
 (hT:QuitsD P qt 0 (G (b₀.at (a₀.put ((ops₀[i₀]?).bind (·.dst)) (.tuple #[])) (.inRegion ops₀ rest₀ :: k₀)) cs)) (w:World) (hK:KCa L.tWg Wg w) {arr:Array Value} {ety:TypeId} (hc:w.heap[C]? = some (.cells arr ety)) (hp:Pay w) :
 Way P false (RK L.tWg Wg) (DK Sh Wg Keep) (KR0 P L.tWg Wg Pay Low) (G ((base L.done).at ⟨#[.pointer (some ⟨Wg,0,none⟩),undef,undef,undef],[]⟩ [.code (body_done L)]) (b₀.at a₀ (.inRegion ops₀ (i₀ :: rest₀) :: k₀) :: cs)) w:=by
 letI:Payload:=⟨ety⟩
 letI:Shy Wg C:=shyK Sh Wg Keep w.heap.size C (kca_lt hK) (Array.getElem?_eq_some_iff.1 hc).1 hCW hCK hCS
 have h0:=Way.of_goes RCa.tr (doneGoes (Mine:=fun _=>True) (vals:=arr.toList) H hW hC hCW hT w ⟨hK,fun _=>(by rw [show arr.toList.toArray = arr from by simp];exact hc)⟩)
 refine Way.mono (fun g w' h=>?_) (Way.weakenI (R':=RK L.tWg Wg) (D':=DK Sh Wg Keep) (fun x=>w.heap.size ≤ x.heap.size ∧ Pay x) (fun a b _ h=>h.ca) (fun a b h ⟨h1,h2⟩=>⟨Nat.le_trans h1 (Nat.le_of_eq h.size.symm),hPay _ _ ⟨h.tape,h.os,h.output,h.size,h.block⟩ h2⟩)
  (fun a b es h ⟨h1,h2⟩=>⟨Nat.le_trans h1 (Nat.le_of_eq h.1.size.symm),hPayC _ _ h.1 h2⟩) (fun a b es ⟨h1,_⟩ h=>?_) h0 ⟨Nat.le_refl _,hp⟩)
 ·obtain ⟨⟨hr,_,g',hgo,hk⟩,_,hp'⟩:=h
  exact ⟨hr,hp',g',hgo,hk⟩
 ·refine ⟨h.1.os,h.1.tape,h.1.output,Nat.le_of_eq h.1.size.symm,h.1.block _ (Ne.symm hCW),fun x hx=>h.1.block _ fun e=>hCK (e ▸ hx),fun e he=>?_⟩
  obtain ⟨hq,q1,q2,_⟩:=h.2 e he
  obtain ⟨_,ht,hr,hok⟩:=hq 0 ""
  refine ⟨⟨fun x hx=>?_,hr,MemAct.low_mono (Nat.le_trans h1 (Nat.le_of_eq h.1.size.symm)) hok.2⟩,q1,q2⟩
  rcases hok.1 x hx with h' | h'
  ·exact .inl h'
  ·obtain ⟨n1,n2⟩:=(ht x hx).2.1 (.inl h')
   refine .inr ⟨?_,h'⟩
   cases hk:x.kind with
   | plain=>exact absurd hk n1
   | atomic=>rfl
   | said=>exact absurd (n2 hk) (by decide)
end
end Go.Eng
namespace Go.Proofs.YtineimjmnbjdlaaDoor
section
open Go
abbrev link:Go.Conc.Lib.WgLink:={ add:=51,done:=50,wait:=52,relMerge:=60,disable:=61,enable:=62,inBubble:=63,associate:=64,fatal:=65,uOr:=66,uAdd:=67,raceRead:=68,uLoad:=69,uStore:=70,disassociate:=71,semrelease:=72,acquire:=73,isAssociated:=74,uCas:=75,raceWrite:=76,semacquire:=77,orU64:=81,addU64:=82,loadU64:=83,storeU64:=84,casU64:=85,tWgP:=100,tUP:=125,tAssoc:=126,tWg:=111,tAU:=109,tU64:=74,tUint:=52,tU32:=46,tPU32:=129,tPAU:=140,tPU64:=139,tNoCopy:=105,tANoCopy:=106,tAlign64:=107 }
theorem wgLib:Go.Conc.Lib.WgLib Tryd.prog link:=
 ⟨Tryd.func51,Tryd.func50,Tryd.func52,Tryd.func60,Tryd.func61,Tryd.func62,Tryd.func63,Tryd.func64,Tryd.func65,Tryd.func66,Tryd.func67,Tryd.func68,Tryd.func69,Tryd.func70,Tryd.func71,Tryd.func72,Tryd.func73,Tryd.func74,Tryd.func75,Tryd.func76,Tryd.func77,Tryd.func81,Tryd.func82,Tryd.func83,Tryd.func84,Tryd.func85,Tryd.underlying100,Tryd.runUnderlying100,Tryd.sizeOf100,Tryd.isAgg100,Tryd.zeroValue100,Tryd.underlying125,Tryd.runUnderlying125,Tryd.sizeOf125,Tryd.isAgg125,Tryd.zeroValue125,Tryd.underlying126,Tryd.runUnderlying126,Tryd.sizeOf126,Tryd.isAgg126,Tryd.zeroValue126,Tryd.underlying111,Tryd.runUnderlying111,Tryd.sizeOf111,Tryd.isAgg111,Tryd.zeroValue111,Tryd.underlying109,Tryd.runUnderlying109,Tryd.sizeOf109,Tryd.isAgg109,Tryd.zeroValue109,Tryd.underlying74,Tryd.runUnderlying74,Tryd.sizeOf74,Tryd.isAgg74,Tryd.zeroValue74,Tryd.underlying52,Tryd.runUnderlying52,Tryd.sizeOf52,Tryd.isAgg52,Tryd.zeroValue52,Tryd.underlying46,Tryd.runUnderlying46,Tryd.sizeOf46,Tryd.isAgg46,Tryd.zeroValue46,Tryd.underlying129,Tryd.runUnderlying129,Tryd.sizeOf129,Tryd.isAgg129,Tryd.zeroValue129,Tryd.underlying140,Tryd.runUnderlying140,Tryd.sizeOf140,Tryd.isAgg140,Tryd.zeroValue140,Tryd.underlying139,Tryd.runUnderlying139,Tryd.sizeOf139,Tryd.isAgg139,Tryd.zeroValue139,Tryd.underlying0,Tryd.runUnderlying0,Tryd.sizeOf0,Tryd.isAgg0,Tryd.zeroValue0,Tryd.underlying3,Tryd.runUnderlying3,Tryd.sizeOf3,Tryd.isAgg3,Tryd.zeroValue3,Tryd.underlying4,Tryd.runUnderlying4,Tryd.sizeOf4,Tryd.isAgg4,Tryd.zeroValue4,Tryd.underlying9,Tryd.runUnderlying9,Tryd.sizeOf9,Tryd.isAgg9,Tryd.zeroValue9,Tryd.underlying20,Tryd.runUnderlying20,Tryd.sizeOf20,Tryd.isAgg20,Tryd.zeroValue20,Tryd.underlying21,Tryd.runUnderlying21,Tryd.sizeOf21,Tryd.isAgg21,Tryd.zeroValue21,(by kernel_rfl),(by kernel_rfl)⟩
end
section
open Go Go.Eng Conc Conc.Lib RowKit
open Go.ConcX (stA smA OfWg WgAt KK rd wr mk RCa RCd KCa DC0)
open Go.ConcX.Gen
structure Ext (w0:World) (bs:List Obj) (w:World):Prop where
 os:w.os = w0.os
 tape:w.tape = w0.tape
 output:w.output = w0.output
 heap:w.heap = w0.heap ++ bs.toArray
theorem Ext.refl (w:World):Ext w [] w:=⟨rfl,rfl,rfl,by simp⟩
theorem Ext.rely {w0 w w₁:World} {bs:List Obj} (h:Ext w0 bs w) (r:AtRel w w₁):Ext w0 bs w₁:=by obtain ⟨d,rfl⟩:=r;exact ⟨h.os,h.tape,h.output,h.heap⟩
theorem Ext.alloc {w0 w:World} {bs:List Obj} (h:Ext w0 bs w) (o:Obj):Ext w0 (bs ++ [o]) (w.alloc o):=⟨h.os,h.tape,h.output,by simp [World.alloc,h.heap]⟩
theorem Ext.size {w0 w:World} {bs:List Obj} (h:Ext w0 bs w):w.heap.size = w0.heap.size + bs.length:=by rw [h.heap];simp
section
variable {w0 w:World} {bs:List Obj}
theorem Ext.size' {o:Obj} (h:Ext w0 (bs ++ [o]) (w.alloc o)):w.heap.size = w0.heap.size + bs.length:=by
 have:=h.size
 have e:(w.alloc o).heap.size = w.heap.size + 1:=by simp [World.alloc,-World.alloc_eq]
 rw [e,List.length_append,List.length_singleton] at this
 omega
theorem alloc_le (w:World) (o:Obj):w.heap.size ≤ (w.alloc o).heap.size:=by simp [World.alloc,-World.alloc_eq]
theorem Ext.at (h:Ext w0 bs w) (i:Nat) {o:Obj} (hi:bs[i]? = some o):w.heap[w0.heap.size + i]? = some o:=by
 rw [h.heap,Array.getElem?_append_right (by omega)]
 simpa using hi
theorem Ext.cell (h:Ext w0 bs w) (i:Nat) {cs:Array Value} {t:TypeId} (hi:bs[i]? = some (.cells cs t)) {v:Value} (hv:cs[0]? = some v):w.cell? ⟨w0.heap.size + i,0,none⟩ = some v:=by
 simp [World.cell?,h.at i hi,hv]
theorem Ext.thaw (h:Ext w0 bs w) (i:Nat) {cs:Array Value} {t:TypeId} (hi:bs[i]? = some (.cells cs t)):w.frozen? ⟨w0.heap.size + i,0,none⟩ = false:=by
 simp [World.frozen?,h.at i hi]
theorem Ext.store (h:Ext w0 bs w) (i:Nat) {v0:Value} {t:TypeId} (hi:bs[i]? = some (.cells #[v0] t)) (v:Value):Ext w0 (bs.set i (.cells #[v] t)) (w.setCell ⟨w0.heap.size + i,0,none⟩ v):=by
 have hA:=aside_setCell w ⟨w0.heap.size + i,0,none⟩ v
 refine ⟨hA.os.trans h.os,hA.tape.trans h.tape,hA.output.trans h.output,?_⟩
 have e:w.heap[w0.heap.size + i]? = some (.cells #[v0] t):=h.at i hi
 apply Array.ext_getElem?
 intro j
 by_cases hj:j = w0.heap.size + i
 ·subst hj
  rw [setCell_eq_setRow w _ 0 _ t (0,0) _ e,setRow_heap w _ _ _ t _ e]
  have hl:i < bs.length:=(List.getElem?_eq_some_iff.1 hi).1
  simp [h.heap,hl]
 ·rw [hA.block j hj,h.heap]
  simp only [Array.getElem?_append]
  split
  ·rfl
  ·have hne:i ≠ j - w0.heap.size:=by omega
   simp [List.getElem?_set_ne hne]
end
section
variable {Sh:Loc → Prop} {w0:World}
theorem box_ok {Wg:Nat} (hsh:∀ a:Addr,Sh (.cell a) → a.block < w0.heap.size) {i:Nat} (hne:w0.heap.size + i ≠ Wg) (x:Bool) {B n:Nat} (o:Nat) (h1:n ≤ B) (h2:w0.heap.size + i < n):EvLT Sh Wg B ⟨.cell ⟨w0.heap.size + i,o,none⟩,x,false⟩:=
 lt_cell x hne (fun hs=>by have:=hsh _ hs;simp at this;omega) (by show w0.heap.size + i < B;omega)
def sndS:Code → Code | .seq _ b=>b | c=>c
def fstS:Code → Code | .seq a _=>a | c=>c
def blkC:Code → Code | .block _ b=>b | c=>c
def lpC:Code → Code | .loop b=>b | c=>c
noncomputable def c36:Code:=Tryd.f36.body.getD .skip
noncomputable def B0:Code:=lpC (blkC (sndS (sndS (sndS (sndS (sndS c36))))))
noncomputable def X1:Code:=blkC (fstS (sndS B0))
noncomputable def B2:Code:=lpC (blkC (sndS X1))
noncomputable def X3:Code:=blkC (fstS (sndS B2))
noncomputable def K3:List Item:=[.code X3,.inBlock 3,.code (sndS (sndS B2)),.inLoop B2,.inBlock 2,.inBlock 1,.code (sndS (sndS B0)),.inLoop B0,.inBlock 0]
def bp (n:Nat):Value:=.pointer (some ⟨n,0,none⟩)
structure TS (n0:Nat) (aB:Option Addr) (lB cB:Nat) (m:Int) (s:Int) (T:Array Value):Prop where
 size:T.size = 43
 t5:T[5]? = some (bp n0)
 t6:T[6]? = some (bp (n0 + 1))
 t7:T[7]? = some (bp (n0 + 2))
 t8:T[8]? = some (bp (n0 + 3))
 t9:T[9]? = some (bp (n0 + 4))
 t10:T[10]? = some (bp (n0 + 5))
 t11:T[11]? = some (bp (n0 + 6))
 t12:T[12]? = some (.func (.func 46) #[] #[bp (n0 + 4),bp (n0 + 2),bp (n0 + 1),bp (n0 + 5),bp (n0 + 6),bp n0,bp (n0 + 3)])
 t13:T[13]? = some (.int .u32 0)
 t14:T[14]? = some (.int .u32 s)
noncomputable def gS (T:Array Value) (cs:List Frame):Goroutine:=G ((base 36).at ⟨T,[]⟩ K3) cs
def boxes (aB:Option Addr) (lB cB:Nat) (m:Int):List Obj:=
 [.cells #[.slice aB lB cB] 81,.cells #[.int .u32 1] 46,.cells #[.int .u32 8] 46,.cells #[.int .u32 1] 46,.cells #[.int .i64 m] 3,.cells #[.int .u32 8] 46,.cells #[.int .u32 2] 46]
def SliceAt (w0:World) (aB:Option Addr) (lB cB:Nat) (m:Int) (cs:List Frame) (g:Goroutine) (w:World):Prop:=
 ∃ T,g = gS T cs ∧ TS w0.heap.size aB lB cB m 0 T ∧ Ext w0 (boxes aB lB cB m) w
set_option maxRecDepth 100000 in
theorem e0 (hsh:∀ a:Addr,Sh (.cell a) → a.block < w0.heap.size) {aB:Option Addr} {lB cB:Nat} {m:Int} {cs:List Frame} (w:World) (hF:Ext w0 [] w) :
 Goes Tryd.prog true AtRel (DL Sh (w0.heap.size + 7)) (SliceAt w0 aB lB cB m cs) 100 (G ((base 36).at ⟨#[.slice aB lB cB,.int .u32 1,.int .u32 8,.int .u32 1,.int .i64 m,undef,undef,undef,undef,undef,undef,undef,undef,undef,undef,undef,undef,undef,undef,undef,undef,undef,undef,undef,undef,undef,undef,undef,undef,undef,undef,undef,undef,undef,undef,undef,undef,undef,undef,undef,undef,undef,undef],[]⟩ [.code (Tryd.f36.body.getD .skip)]) cs) w:=by
 simp only [Tryd.f36,Option.getD_some]
 u_in Ext.rely hF;rw [stepG_seq];simp only [goes_go];refine ⟨dl_nil,?_⟩
 u_in Ext.rely hF;rw [stepG_region];simp only [goes_go,List.size_toArray,List.length_cons,List.length_nil,Nat.reduceAdd,Nat.zero_add,List.range,List.range.loop];refine ⟨dl_nil,?_⟩
 u_in Ext.rely hF;refine goes_oper_k rfl rfl (by k_ne) (fun K hK=>?_);go_simp;refine hK _ _ ⟨⟨alloc_le _ _,fun e he=>by have hm:=mem_listed he;clear hK;simp [go_sem,storedEv] at hm⟩,?_⟩;clear hK K;replace hF:=Ext.alloc hF (.cells #[.slice aB lB cB] 81);rw [Ext.size' hF];simp only [List.nil_append,List.cons_append,List.length_cons,List.length_nil,Nat.add_zero,Nat.zero_add,Nat.reduceAdd] at hF ⊢;try w_num
 u_in Ext.rely hF;refine goes_oper_k rfl rfl (by k_ne) (fun K hK=>?_);go_simp;refine hK _ _ ⟨⟨alloc_le _ _,fun e he=>by have hm:=mem_listed he;clear hK;simp [go_sem,storedEv] at hm⟩,?_⟩;clear hK K;replace hF:=Ext.alloc hF (.cells #[.int .u32 1] 46);rw [Ext.size' hF];simp only [List.nil_append,List.cons_append,List.length_cons,List.length_nil,Nat.add_zero,Nat.zero_add,Nat.reduceAdd] at hF ⊢;try w_num
 u_in Ext.rely hF;refine goes_oper_k rfl rfl (by k_ne) (fun K hK=>?_);go_simp;refine hK _ _ ⟨⟨alloc_le _ _,fun e he=>by have hm:=mem_listed he;clear hK;simp [go_sem,storedEv] at hm⟩,?_⟩;clear hK K;replace hF:=Ext.alloc hF (.cells #[.int .u32 8] 46);rw [Ext.size' hF];simp only [List.nil_append,List.cons_append,List.length_cons,List.length_nil,Nat.add_zero,Nat.zero_add,Nat.reduceAdd] at hF ⊢;try w_num
 u_in Ext.rely hF;refine goes_oper_k rfl rfl (by k_ne) (fun K hK=>?_);go_simp;refine hK _ _ ⟨⟨alloc_le _ _,fun e he=>by have hm:=mem_listed he;clear hK;simp [go_sem,storedEv] at hm⟩,?_⟩;clear hK K;replace hF:=Ext.alloc hF (.cells #[.int .u32 1] 46);rw [Ext.size' hF];simp only [List.nil_append,List.cons_append,List.length_cons,List.length_nil,Nat.add_zero,Nat.zero_add,Nat.reduceAdd] at hF ⊢;try w_num
 u_in Ext.rely hF;refine goes_oper_k rfl rfl (by k_ne) (fun K hK=>?_);go_simp;refine hK _ _ ⟨⟨alloc_le _ _,fun e he=>by have hm:=mem_listed he;clear hK;simp [go_sem,storedEv] at hm⟩,?_⟩;clear hK K;replace hF:=Ext.alloc hF (.cells #[.int .i64 m] 3);rw [Ext.size' hF];simp only [List.nil_append,List.cons_append,List.length_cons,List.length_nil,Nat.add_zero,Nat.zero_add,Nat.reduceAdd] at hF ⊢;try w_num
 u_in Ext.rely hF;rw [stepG_region_end];simp only [goes_go];refine ⟨dl_nil,?_⟩
 u_in Ext.rely hF;rw [stepG_seq];simp only [goes_go];refine ⟨dl_nil,?_⟩
 u_in Ext.rely hF;rw [stepG_region];simp only [goes_go,List.size_toArray,List.length_cons,List.length_nil,Nat.reduceAdd,Nat.zero_add,List.range,List.range.loop];refine ⟨dl_nil,?_⟩
 u_in Ext.rely hF;refine goes_oper_k rfl rfl (by k_ne) (fun K hK=>?_);have hc:=Ext.cell hF 2 rfl rfl;(try simp only [Nat.add_zero] at hc);go_simp;refine hK _ _ ⟨⟨Nat.le_refl _,fun e he=>by have hm:=mem_listed he;clear hK;simp [go_sem,hc] at hm;subst hm;exact ⟨(fun x o h1 h2=>box_ok hsh (by omega) x o h1 h2) false _ (Nat.le_refl _) (by rw [Ext.size hF];simp),by simp,by simp⟩⟩,?_⟩;clear hK K hc;try w_num
 u_in Ext.rely hF;refine goes_oper_k rfl rfl (by k_ne) (fun K hK=>?_);have hc:=Ext.cell hF 3 rfl rfl;(try simp only [Nat.add_zero] at hc);go_simp;refine hK _ _ ⟨⟨Nat.le_refl _,fun e he=>by have hm:=mem_listed he;clear hK;simp [go_sem,hc] at hm;subst hm;exact ⟨(fun x o h1 h2=>box_ok hsh (by omega) x o h1 h2) false _ (Nat.le_refl _) (by rw [Ext.size hF];simp),by simp,by simp⟩⟩,?_⟩;clear hK K hc;try w_num
 u_in Ext.rely hF;refine goes_oper_k rfl rfl (by k_ne) (fun K hK=>?_);go_simp;refine hK _ _ ⟨dl_none fun e he=>by have hm:=mem_listed he;simp [go_sem, *] at hm,?_⟩;clear hK K;try w_num
 u_in Ext.rely hF;refine goes_oper_k rfl rfl (by k_ne) (fun K hK=>?_);go_simp;refine hK _ _ ⟨⟨alloc_le _ _,fun e he=>by have hm:=mem_listed he;clear hK;simp [go_sem,storedEv] at hm⟩,?_⟩;clear hK K;replace hF:=Ext.alloc hF (.cells #[.int .u32 0] 46);rw [Ext.size' hF];simp only [List.nil_append,List.cons_append,List.length_cons,List.length_nil,Nat.add_zero,Nat.zero_add,Nat.reduceAdd] at hF ⊢;try w_num
 u_in Ext.rely hF;refine goes_oper_k rfl rfl (by k_ne) (fun K hK=>?_);have hc:=Ext.cell hF 5 rfl rfl;have hz:=Ext.thaw hF 5 rfl;(try simp only [Nat.add_zero] at hc hz);go_simp;refine hK _ _ ⟨⟨?_,fun e he=>?_⟩,?_⟩;exact Nat.le_of_eq (aside_setCell _ _ _).size.symm;have hm:=mem_listed he;clear hK;simp [go_sem,storedEv,hc,hz] at hm;subst hm;exact ⟨(fun x o h1 h2=>box_ok hsh (by omega) x o h1 h2) true _ (Nat.le_of_eq (aside_setCell _ _ _).size.symm) (by rw [Ext.size hF];simp),by simp,by simp⟩;clear hK K hc hz;replace hF:=Ext.store hF 5 rfl (.int .u32 8);simp only [List.set] at hF;try w_num
 u_in Ext.rely hF;rw [stepG_region_end];simp only [goes_go];refine ⟨dl_nil,?_⟩
 u_in Ext.rely hF;rw [stepG_seq];simp only [goes_go];refine ⟨dl_nil,?_⟩
 u_in Ext.rely hF;rw [stepG_region];simp only [goes_go,List.size_toArray,List.length_cons,List.length_nil,Nat.reduceAdd,Nat.zero_add,List.range,List.range.loop];refine ⟨dl_nil,?_⟩
 u_in Ext.rely hF;refine goes_oper_k rfl rfl (by k_ne) (fun K hK=>?_);have hc:=Ext.cell hF 5 rfl rfl;(try simp only [Nat.add_zero] at hc);go_simp;refine hK _ _ ⟨⟨Nat.le_refl _,fun e he=>by have hm:=mem_listed he;clear hK;simp [go_sem,hc] at hm;subst hm;exact ⟨(fun x o h1 h2=>box_ok hsh (by omega) x o h1 h2) false _ (Nat.le_refl _) (by rw [Ext.size hF];simp),by simp,by simp⟩⟩,?_⟩;clear hK K hc;try w_num
 u_in Ext.rely hF;refine goes_oper_k rfl rfl (by k_ne) (fun K hK=>?_);go_simp;refine hK _ _ ⟨dl_none fun e he=>by have hm:=mem_listed he;simp [go_sem, *] at hm,?_⟩;clear hK K;try w_num
 u_in Ext.rely hF;refine goes_oper_k rfl rfl (by k_ne) (fun K hK=>?_);go_simp;refine hK _ _ ⟨⟨alloc_le _ _,fun e he=>by have hm:=mem_listed he;clear hK;simp [go_sem,storedEv] at hm⟩,?_⟩;clear hK K;replace hF:=Ext.alloc hF (.cells #[.int .u32 0] 46);rw [Ext.size' hF];simp only [List.nil_append,List.cons_append,List.length_cons,List.length_nil,Nat.add_zero,Nat.zero_add,Nat.reduceAdd] at hF ⊢;try w_num
 u_in Ext.rely hF;refine goes_oper_k rfl rfl (by k_ne) (fun K hK=>?_);have hc:=Ext.cell hF 6 rfl rfl;have hz:=Ext.thaw hF 6 rfl;(try simp only [Nat.add_zero] at hc hz);go_simp;refine hK _ _ ⟨⟨?_,fun e he=>?_⟩,?_⟩;exact Nat.le_of_eq (aside_setCell _ _ _).size.symm;have hm:=mem_listed he;clear hK;simp [go_sem,storedEv,hc,hz] at hm;subst hm;exact ⟨(fun x o h1 h2=>box_ok hsh (by omega) x o h1 h2) true _ (Nat.le_of_eq (aside_setCell _ _ _).size.symm) (by rw [Ext.size hF];simp),by simp,by simp⟩;clear hK K hc hz;replace hF:=Ext.store hF 6 rfl (.int .u32 2);simp only [List.set] at hF;try w_num
 u_in Ext.rely hF;rw [stepG_region_end];simp only [goes_go];refine ⟨dl_nil,?_⟩
 u_in Ext.rely hF;rw [stepG_seq];simp only [goes_go];refine ⟨dl_nil,?_⟩
 u_in Ext.rely hF;rw [stepG_region];simp only [goes_go,List.size_toArray,List.length_cons,List.length_nil,Nat.reduceAdd,Nat.zero_add,List.range,List.range.loop];refine ⟨dl_nil,?_⟩
 u_in Ext.rely hF;refine goes_oper_k rfl rfl (by k_ne) (fun K hK=>?_);go_simp;refine hK _ _ ⟨dl_none fun e he=>by have hm:=mem_listed he;clear hK;simp [go_sem,Instr.makeFunc] at hm,?_⟩;clear hK K
 u_in Ext.rely hF;refine goes_oper_k rfl rfl (by k_ne) (fun K hK=>?_);go_simp;refine hK _ _ ⟨dl_none fun e he=>by have hm:=mem_listed he;simp [go_sem, *] at hm,?_⟩;clear hK K;try w_num
 u_in Ext.rely hF;rw [stepG_region_end];simp only [goes_go];refine ⟨dl_nil,?_⟩
 u_in Ext.rely hF;rw [stepG_seq];simp only [goes_go];refine ⟨dl_nil,?_⟩
 u_in Ext.rely hF;rw [stepG_region];simp only [goes_go,List.size_toArray,List.length_cons,List.length_nil,Nat.reduceAdd,Nat.zero_add,List.range,List.range.loop];refine ⟨dl_nil,?_⟩
 u_in Ext.rely hF;refine goes_oper_k rfl rfl (by k_ne) (fun K hK=>?_);go_simp;refine hK _ _ ⟨dl_none fun e he=>by have hm:=mem_listed he;simp [go_sem, *] at hm,?_⟩;clear hK K;try w_num
 u_in Ext.rely hF;rw [stepG_region_end];simp only [goes_go];refine ⟨dl_nil,?_⟩
 u_in Ext.rely hF;rw [stepG_block];simp only [goes_go];refine ⟨dl_nil,?_⟩
 u_in Ext.rely hF;rw [stepG_loop];simp only [goes_go];refine ⟨dl_nil,?_⟩
 iterate 2 (u_in Ext.rely hF;rw [stepG_seq];simp only [goes_go];refine ⟨dl_nil,?_⟩)
 u_in Ext.rely hF;rw [stepG_region];simp only [goes_go,List.size_toArray,List.length_cons,List.length_nil,Nat.reduceAdd,Nat.zero_add,List.range,List.range.loop];refine ⟨dl_nil,?_⟩
 u_in Ext.rely hF;refine goes_oper_k rfl rfl (by k_ne) (fun K hK=>?_);go_simp;refine hK _ _ ⟨dl_none fun e he=>by have hm:=mem_listed he;simp [go_sem, *] at hm,?_⟩;clear hK K;try w_num
 u_in Ext.rely hF;refine goes_oper_k rfl rfl (by k_ne) (fun K hK=>?_);have hc:=Ext.cell hF 1 rfl rfl;(try simp only [Nat.add_zero] at hc);go_simp;refine hK _ _ ⟨⟨Nat.le_refl _,fun e he=>by have hm:=mem_listed he;clear hK;simp [go_sem,hc] at hm;subst hm;exact ⟨(fun x o h1 h2=>box_ok hsh (by omega) x o h1 h2) false _ (Nat.le_refl _) (by rw [Ext.size hF];simp),by simp,by simp⟩⟩,?_⟩;clear hK K hc;try w_num
 u_in Ext.rely hF;refine goes_oper_k rfl rfl (by k_ne) (fun K hK=>?_);go_simp;refine hK _ _ ⟨dl_none fun e he=>by have hm:=mem_listed he;simp [go_sem, *] at hm,?_⟩;clear hK K;try w_num
 u_in Ext.rely hF;rw [stepG_region_end];simp only [goes_go];refine ⟨dl_nil,?_⟩
 u_in Ext.rely hF;rw [stepG_cond (t:=true) rfl];simp only [goes_go,if_true,if_false,Bool.false_eq_true,↓reduceIte];refine ⟨dl_nil,?_⟩
 u_in Ext.rely hF;rw [stepG_skip];simp only [goes_go];refine ⟨dl_nil,?_⟩
 u_in Ext.rely hF;rw [stepG_seq];simp only [goes_go];refine ⟨dl_nil,?_⟩
 u_in Ext.rely hF;rw [stepG_block];simp only [goes_go];refine ⟨dl_nil,?_⟩
 u_in Ext.rely hF;rw [stepG_seq];simp only [goes_go];refine ⟨dl_nil,?_⟩
 u_in Ext.rely hF;rw [stepG_region];simp only [goes_go,List.size_toArray,List.length_cons,List.length_nil,Nat.reduceAdd,Nat.zero_add,List.range,List.range.loop];refine ⟨dl_nil,?_⟩
 u_in Ext.rely hF;refine goes_oper_k rfl rfl (by k_ne) (fun K hK=>?_);go_simp;refine hK _ _ ⟨dl_none fun e he=>by have hm:=mem_listed he;simp [go_sem, *] at hm,?_⟩;clear hK K;try w_num
 u_in Ext.rely hF;rw [stepG_region_end];simp only [goes_go];refine ⟨dl_nil,?_⟩
 u_in Ext.rely hF;rw [stepG_block];simp only [goes_go];refine ⟨dl_nil,?_⟩
 u_in Ext.rely hF;rw [stepG_loop];simp only [goes_go];refine ⟨dl_nil,?_⟩
 iterate 2 (u_in Ext.rely hF;rw [stepG_seq];simp only [goes_go];refine ⟨dl_nil,?_⟩)
 u_in Ext.rely hF;rw [stepG_region];simp only [goes_go,List.size_toArray,List.length_cons,List.length_nil,Nat.reduceAdd,Nat.zero_add,List.range,List.range.loop];refine ⟨dl_nil,?_⟩
 iterate 2 (u_in Ext.rely hF;refine goes_oper_k rfl rfl (by k_ne) (fun K hK=>?_);go_simp;refine hK _ _ ⟨dl_none fun e he=>by have hm:=mem_listed he;simp [go_sem, *] at hm,?_⟩;clear hK K;try w_num)
 u_in Ext.rely hF;rw [stepG_region_end];simp only [goes_go];refine ⟨dl_nil,?_⟩
 u_in Ext.rely hF;rw [stepG_cond (t:=true) rfl];simp only [goes_go,if_true,if_false,Bool.false_eq_true,↓reduceIte];refine ⟨dl_nil,?_⟩
 u_in Ext.rely hF;rw [stepG_skip];simp only [goes_go];refine ⟨dl_nil,?_⟩
 u_in Ext.rely hF;rw [stepG_seq];simp only [goes_go];refine ⟨dl_nil,?_⟩
 u_in Ext.rely hF;rw [stepG_block];simp only [goes_go];refine ⟨dl_nil,?_⟩
 exact Goes.stop fun w₁ h₁=>⟨_,rfl,⟨rfl,rfl,rfl,rfl,rfl,rfl,rfl,rfl,rfl,rfl,rfl⟩,hF.rely h₁⟩
end
end
section
open Go Go.Eng Conc Conc.Lib RowKit
open Go.ConcX (stA smA OfWg WgAt wgBlock KK rd wr mk RCa RCd KCa DC0)
open Go.ConcX.Gen
theorem array43 (T:Array Value) (h:T.size = 43):∃ v0 v1 v2 v3 v4 v5 v6 v7 v8 v9 v10 v11 v12 v13 v14 v15 v16 v17 v18 v19 v20 v21 v22 v23 v24 v25 v26 v27 v28 v29 v30 v31 v32 v33 v34 v35 v36 v37 v38 v39 v40 v41 v42:Value,T = #[v0,v1,v2,v3,v4,v5,v6,v7,v8,v9,v10,v11,v12,v13,v14,v15,v16,v17,v18,v19,v20,v21,v22,v23,v24,v25,v26,v27,v28,v29,v30,v31,v32,v33,v34,v35,v36,v37,v38,v39,v40,v41,v42]:=by
 obtain ⟨l⟩:=T
 simp only [List.size_toArray] at h
 rcases l with _ | ⟨v0,l⟩
 ·simp at h
 rcases l with _ | ⟨v1,l⟩
 ·simp at h
 rcases l with _ | ⟨v2,l⟩
 ·simp at h
 rcases l with _ | ⟨v3,l⟩
 ·simp at h
 rcases l with _ | ⟨v4,l⟩
 ·simp at h
 rcases l with _ | ⟨v5,l⟩
 ·simp at h
 rcases l with _ | ⟨v6,l⟩
 ·simp at h
 rcases l with _ | ⟨v7,l⟩
 ·simp at h
 rcases l with _ | ⟨v8,l⟩
 ·simp at h
 rcases l with _ | ⟨v9,l⟩
 ·simp at h
 rcases l with _ | ⟨v10,l⟩
 ·simp at h
 rcases l with _ | ⟨v11,l⟩
 ·simp at h
 rcases l with _ | ⟨v12,l⟩
 ·simp at h
 rcases l with _ | ⟨v13,l⟩
 ·simp at h
 rcases l with _ | ⟨v14,l⟩
 ·simp at h
 rcases l with _ | ⟨v15,l⟩
 ·simp at h
 rcases l with _ | ⟨v16,l⟩
 ·simp at h
 rcases l with _ | ⟨v17,l⟩
 ·simp at h
 rcases l with _ | ⟨v18,l⟩
 ·simp at h
 rcases l with _ | ⟨v19,l⟩
 ·simp at h
 rcases l with _ | ⟨v20,l⟩
 ·simp at h
 rcases l with _ | ⟨v21,l⟩
 ·simp at h
 rcases l with _ | ⟨v22,l⟩
 ·simp at h
 rcases l with _ | ⟨v23,l⟩
 ·simp at h
 rcases l with _ | ⟨v24,l⟩
 ·simp at h
 rcases l with _ | ⟨v25,l⟩
 ·simp at h
 rcases l with _ | ⟨v26,l⟩
 ·simp at h
 rcases l with _ | ⟨v27,l⟩
 ·simp at h
 rcases l with _ | ⟨v28,l⟩
 ·simp at h
 rcases l with _ | ⟨v29,l⟩
 ·simp at h
 rcases l with _ | ⟨v30,l⟩
 ·simp at h
 rcases l with _ | ⟨v31,l⟩
 ·simp at h
 rcases l with _ | ⟨v32,l⟩
 ·simp at h
 rcases l with _ | ⟨v33,l⟩
 ·simp at h
 rcases l with _ | ⟨v34,l⟩
 ·simp at h
 rcases l with _ | ⟨v35,l⟩
 ·simp at h
 rcases l with _ | ⟨v36,l⟩
 ·simp at h
 rcases l with _ | ⟨v37,l⟩
 ·simp at h
 rcases l with _ | ⟨v38,l⟩
 ·simp at h
 rcases l with _ | ⟨v39,l⟩
 ·simp at h
 rcases l with _ | ⟨v40,l⟩
 ·simp at h
 rcases l with _ | ⟨v41,l⟩
 ·simp at h
 rcases l with _ | ⟨v42,l⟩
 ·simp at h
 rcases l with _ | ⟨x,l⟩
 ·exact ⟨v0,v1,v2,v3,v4,v5,v6,v7,v8,v9,v10,v11,v12,v13,v14,v15,v16,v17,v18,v19,v20,v21,v22,v23,v24,v25,v26,v27,v28,v29,v30,v31,v32,v33,v34,v35,v36,v37,v38,v39,v40,v41,v42,rfl⟩
 ·simp at h
section
variable {Sh:Loc → Prop} {w1:World} {n0:Nat} {aB:Option Addr} {lB cB:Nat} {m s:Int} {cs:List Frame}
theorem Ext.old {w0 w:World} {bs:List Obj} (h:Ext w0 bs w) {c:Nat} (hc:c < w0.heap.size):w.heap[c]? = w0.heap[c]?:=by rw [h.heap,Array.getElem?_append_left hc]
theorem Ext.oldCell {w0 w:World} {bs:List Obj} (h:Ext w0 bs w) {c:Nat} {v:Value} {t:TypeId} (hv:w0.heap[c]? = some (.cells #[v] t)):w.cell? ⟨c,0,none⟩ = some v:=by
 have:=(h.old (Array.getElem?_eq_some_iff.1 hv).1).trans hv
 simp [World.cell?,this]
theorem wg_of_ext {w:World} (h:Ext w1 [.cells #[.int .u64 0,.int .u32 0] 111] w):WgAt link.tWg w1.heap.size w 0 0:=by
 unfold WgAt wgBlock
 exact h.at 0 rfl
theorem TS.put {T:Array Value} (h:TS n0 aB lB cB m s T) {i:Nat} (hi:14 < i) (v:Value):TS n0 aB lB cB m s (T.setIfInBounds i v):=by
 have e:∀ j,j ≤ 14 → (T.setIfInBounds i v)[j]? = T[j]?:=fun j hj=>Array.getElem?_setIfInBounds_ne (by omega)
 exact ⟨by simp [h.size],by rw [e _ (by decide)];exact h.t5,by rw [e _ (by decide)];exact h.t6,by rw [e _ (by decide)];exact h.t7,by rw [e _ (by decide)];exact h.t8,by rw [e _ (by decide)];exact h.t9,by rw [e _ (by decide)];exact h.t10,
  by rw [e _ (by decide)];exact h.t11,by rw [e _ (by decide)];exact h.t12,by rw [e _ (by decide)];exact h.t13,by rw [e _ (by decide)];exact h.t14⟩
noncomputable def B4:Code:=lpC (blkC (sndS (fstS (sndS X3))))
noncomputable def K15:List Item:=[.code (sndS (sndS B4)),.inLoop B4,.inBlock 4,.code (sndS (sndS X3)),.inBlock 3,.code (sndS (sndS B2)),.inLoop B2,.inBlock 2,.inBlock 1,.code (sndS (sndS B0)),.inLoop B0,.inBlock 0]
def opsOf:Code → Array Oper | .region _ o _=>o | _=>#[]
noncomputable def r14:Array Oper:=opsOf (fstS (blkC (fstS (sndS B4))))
def call46 (n0:Nat) (s:Int) (Wg:Nat):Deferred:={ target:=.fn (.func 46) #[bp (n0 + 4),bp (n0 + 2),bp (n0 + 1),bp (n0 + 5),bp (n0 + 6),bp n0,bp (n0 + 3)],args:=#[.int .u32 0,.int .u32 s,.int .u32 0,bp Wg] }
def Aft (n0:Nat) (aB:Option Addr) (lB cB:Nat) (m s:Int) (Wg:Nat) (cs:List Frame) (g:Goroutine):Prop:=
 ∃ T,g = G ((base 36).at ⟨T,[]⟩ (.inRegion r14 [] :: .code (sndS (blkC (fstS (sndS B4)))) :: .inBlock 5 :: K15)) cs ∧ TS n0 aB lB cB m s T ∧ T[15]? = some (bp Wg) ∧ T[16]? = some (.int .u32 0)
theorem ext_at {w0 w:World} (h:Ext w0 [] w):AtRel w0 w:=⟨w.drawn,by
 obtain ⟨o,t,u,hh⟩:=h
 have e:w.heap = w0.heap:=by simpa using hh
 cases w;cases w0
 simp only at o t u e
 subst o t u e
 rfl⟩
noncomputable def r10:Array Oper:=opsOf (fstS X3)
noncomputable def gA (T:Array Value) (cs:List Frame):Goroutine:=G ((base 36).at ⟨T,[]⟩ (.inRegion r10 [0] :: .code (sndS X3) :: .inBlock 3 :: .code (sndS (sndS B2)) :: .inLoop B2 :: .inBlock 2 :: .inBlock 1 :: .code (sndS (sndS B0)) :: .inLoop B0 :: .inBlock 0 :: [])) cs
noncomputable def gA' (T:Array Value) (Wg:Nat) (cs:List Frame):Goroutine:=G ((base 36).at ⟨T.setIfInBounds 15 (bp Wg),[]⟩ (.inRegion r10 [] :: .code (sndS X3) :: .inBlock 3 :: .code (sndS (sndS B2)) :: .inLoop B2 :: .inBlock 2 :: .inBlock 1 :: .code (sndS (sndS B0)) :: .inLoop B0 :: .inBlock 0 :: [])) cs
theorem slice1a (T:Array Value) (w:World) {Wg:Nat}:WL Tryd.prog Sh Wg (fun g w'=>g = gA T cs ∧ AtRel w w') (gS T cs) w:=by
 refine way_of atRel_tr (n:=3) ?_
 have hF:AtRel w w:=AtRel.refl w
 simp only [gS,K3,gA,r10,X3,B2,X1,B0,c36,Tryd.f36,Option.getD_some,sndS,fstS,blkC,lpC,opsOf]
 u_in lone_rely hF;rw [stepG_seq];simp only [goes_go];refine ⟨dl_nil,?_⟩
 u_in lone_rely hF;rw [stepG_region];simp only [goes_go,List.size_toArray,List.length_cons,List.length_nil,Nat.reduceAdd,Nat.zero_add,List.range,List.range.loop];refine ⟨dl_nil,?_⟩
 exact Goes.stop fun w₁ h₁=>⟨rfl,lone_rely hF h₁⟩
def wgNew:Obj:=.cells #[.int .u64 0,.int .u32 0] 111
set_option maxRecDepth 100000 in
theorem slice_alloc (T:Array Value) (w:World):stepG Tryd.prog true (gA T cs) w = .go (gA' T w.heap.size cs) (w.alloc wgNew) #[]:=by
 have h:(stepG Tryd.prog true (gA T cs) w).goes fun g w' es=>g = gA' T w.heap.size cs ∧ w' = w.alloc wgNew ∧ es = #[]:=by
  simp only [gA,r10,X3,B2,X1,B0,c36,Tryd.f36,Option.getD_some,sndS,fstS,blkC,lpC,opsOf]
  refine goes_oper_k rfl rfl (by k_ne) (fun K hK=>?_)
  go_simp
  refine hK _ _ ⟨rfl,rfl,Go.Conc.listed_nil (by simp [go_sem])⟩
 cases hg:stepG Tryd.prog true (gA T cs) w with
 | go g' w' es=>rw [hg] at h;obtain ⟨rfl,rfl,rfl⟩:=h;rfl
 | _=>rw [hg] at h;exact h.elim
set_option maxRecDepth 100000 in
set_option maxHeartbeats 4000000 in
theorem slice1 {T:Array Value} (hT:TS n0 aB lB cB m s T) {Wg:Nat} (h15:T[15]? = some (bp Wg)) {w0:World} (hwg:WgAt link.tWg Wg w0 0 0) (hthr:w0.heap[n0 + 3]? = some (.cells #[.int .u32 1] 46)) (hns:¬ Sh (.cell ⟨n0 + 3,0,none⟩)) (hne:n0 + 3 ≠ Wg) (w:World) (hF:Ext w0 [] w) {Stop:Stops}
 (hk:∀ g w,Aft n0 aB lB cB m s Wg cs g → (∃ w2,AtRel w0 w2 ∧ AtRel (w2.setCell (stA Wg) (.int .u64 KK)) w) → WL Tryd.prog Sh Wg Stop g w) :
 WL Tryd.prog Sh Wg (MMark Tryd.prog .disable (WL Tryd.prog Sh Wg (MMark Tryd.prog .enable (WL Tryd.prog Sh Wg Stop)))) (G ((base 36).at ⟨T,[]⟩ (.inRegion r10 [] :: .code (sndS X3) :: .inBlock 3 :: .code (sndS (sndS B2)) :: .inLoop B2 :: .inBlock 2 :: .inBlock 1 :: .code (sndS (sndS B0)) :: .inLoop B0 :: .inBlock 0 :: [])) cs) w:=by
 obtain ⟨hs,h5,h6,h7,h8,h9,h10,h11,h12,h13,h14⟩:=hT
 obtain ⟨v0,v1,v2,v3,v4,v5,v6,v7,v8,v9,v10,v11,v12,v13,v14,v15,v16,v17,v18,v19,v20,v21,v22,v23,v24,v25,v26,v27,v28,v29,v30,v31,v32,v33,v34,v35,v36,v37,v38,v39,v40,v41,v42,rfl⟩:=array43 T hs
 simp only [List.getElem?_toArray,List.getElem?_cons_zero,List.getElem?_cons_succ,Option.some.injEq] at h5 h6 h7 h8 h9 h10 h11 h12 h13 h14 h15
 subst h5 h6 h7 h8 h9 h10 h11 h12 h13 h14 h15
 have H:=wgLib
 refine Eng.Way.trans AtRel.refl atRel_tr (Stop:=fun g w=>∃ T,g = G ((base 51).at ⟨#[.pointer (some ⟨Wg,0,none⟩),.int .i64 1,undef,undef,undef,undef,undef,undef,undef,undef,undef,undef,undef,undef,undef,undef,undef,undef,undef,undef,undef,undef,undef,undef,undef,undef,undef,undef,undef,undef,undef,undef,undef,undef,undef,undef,undef,undef,undef,undef,undef,undef,undef,undef,undef,undef,undef,undef,undef,undef,undef,undef,undef,undef,undef,undef,undef,undef,undef,undef,undef,undef,undef,undef,undef,undef,undef,undef,undef,undef,undef,undef,undef,undef,undef,undef,undef,undef,undef,undef,undef,undef,undef,undef,undef,undef,undef,undef,undef,undef,undef,undef,undef,undef,undef,undef,undef,undef,undef,undef,undef,undef,undef,undef,undef,undef,undef,undef,undef,undef,undef,undef,undef,undef,undef,undef,undef],[]⟩ [.code (body_add link)]) ((base 36).at ⟨T,[]⟩ (.inRegion r14 [0] :: .code (sndS (blkC (fstS (sndS B4)))) :: .inBlock 5 :: K15) :: cs) ∧ TS n0 aB lB cB m s T ∧ T[15]? = some (bp Wg) ∧ T[16]? = some (.int .u32 0) ∧ Ext w0 [] w ∧ AtRel w0 w) (way_of atRel_tr (n:=40) ?_) ?_
 ·clear hs hk
  simp only [r10,X3,B2,X1,B0,c36,Tryd.f36,Option.getD_some,sndS,fstS,blkC,lpC,opsOf,bp]
  u_in Ext.rely hF;rw [stepG_region_end];simp only [goes_go];refine ⟨dl_nil,?_⟩
  iterate 2 (u_in Ext.rely hF;rw [stepG_seq];simp only [goes_go];refine ⟨dl_nil,?_⟩)
  u_in Ext.rely hF;rw [stepG_region];simp only [goes_go,List.size_toArray,List.length_cons,List.length_nil,Nat.reduceAdd,Nat.zero_add,List.range,List.range.loop];refine ⟨dl_nil,?_⟩
  u_in Ext.rely hF;refine goes_oper_k rfl rfl (by k_ne) (fun K hK=>?_);go_simp;refine hK _ _ ⟨dl_none fun e he=>by have hm:=mem_listed he;simp [go_sem, *] at hm,?_⟩;clear hK K;try w_num
  u_in Ext.rely hF;rw [stepG_region_end];simp only [goes_go];refine ⟨dl_nil,?_⟩
  u_in Ext.rely hF;rw [stepG_block];simp only [goes_go];refine ⟨dl_nil,?_⟩
  u_in Ext.rely hF;rw [stepG_loop];simp only [goes_go];refine ⟨dl_nil,?_⟩
  iterate 2 (u_in Ext.rely hF;rw [stepG_seq];simp only [goes_go];refine ⟨dl_nil,?_⟩)
  u_in Ext.rely hF;rw [stepG_region];simp only [goes_go,List.size_toArray,List.length_cons,List.length_nil,Nat.reduceAdd,Nat.zero_add,List.range,List.range.loop];refine ⟨dl_nil,?_⟩
  u_in Ext.rely hF;refine goes_oper_k rfl rfl (by k_ne) (fun K hK=>?_);go_simp;refine hK _ _ ⟨dl_none fun e he=>by have hm:=mem_listed he;simp [go_sem, *] at hm,?_⟩;clear hK K;try w_num
  u_in Ext.rely hF;refine goes_oper_k rfl rfl (by k_ne) (fun K hK=>?_);have hc:=(Ext.oldCell hF hthr);go_simp;refine hK _ _ ⟨⟨Nat.le_refl _,fun e he=>by have hm:=mem_listed he;clear hK;simp [go_sem,hc] at hm;subst hm;exact (⟨lt_cell false hne hns (by show n0 + 3 < _;rw [hF.size];exact Nat.lt_of_lt_of_le (Array.getElem?_eq_some_iff.1 hthr).1 (Nat.le_add_right _ _)),by simp,by simp⟩)⟩,?_⟩;clear hK K hc;try w_num
  u_in Ext.rely hF;refine goes_oper_k rfl rfl (by k_ne) (fun K hK=>?_);go_simp;refine hK _ _ ⟨dl_none fun e he=>by have hm:=mem_listed he;simp [go_sem, *] at hm,?_⟩;clear hK K;try w_num
  u_in Ext.rely hF;rw [stepG_region_end];simp only [goes_go];refine ⟨dl_nil,?_⟩
  u_in Ext.rely hF;rw [stepG_cond (t:=true) rfl];simp only [goes_go,if_true,if_false,Bool.false_eq_true,↓reduceIte];refine ⟨dl_nil,?_⟩
  u_in Ext.rely hF;rw [stepG_skip];simp only [goes_go];refine ⟨dl_nil,?_⟩
  u_in Ext.rely hF;rw [stepG_seq];simp only [goes_go];refine ⟨dl_nil,?_⟩
  u_in Ext.rely hF;rw [stepG_block];simp only [goes_go];refine ⟨dl_nil,?_⟩
  u_in Ext.rely hF;rw [stepG_seq];simp only [goes_go];refine ⟨dl_nil,?_⟩
  u_in Ext.rely hF;rw [stepG_region];simp only [goes_go,List.size_toArray,List.length_cons,List.length_nil,Nat.reduceAdd,Nat.zero_add,List.range,List.range.loop];refine ⟨dl_nil,?_⟩
  u_in Ext.rely hF;refine goes_call rfl rfl (by k_ne) rfl H.f_add (nm_add link) rfl ⟨dl_nil,?_⟩;walk_nrmf addFn
  exact Goes.stop fun w₁ h₁=>⟨_,rfl,⟨rfl,rfl,rfl,rfl,rfl,rfl,rfl,rfl,rfl,rfl,rfl⟩,rfl,rfl,hF.rely h₁,ext_at (hF.rely h₁)⟩
 ·rintro g w ⟨T,rfl,hT,h15,h16,hF,hA⟩
  refine addWay H (show WgAt link.tWg Wg w 0 0 by obtain ⟨d,rfl⟩:=hA;exact hwg) (fun w h=>?_) w (AtRel.refl w)
  refine hk _ _ ⟨_,rfl,?_,?_,?_⟩ ⟨_,hA,h⟩
  ·show TS n0 aB lB cB m s (T.setIfInBounds 37 _)
   exact hT.put (by decide) _
  ·show (T.setIfInBounds 37 _)[15]? = _
   rw [Array.getElem?_setIfInBounds_ne (by decide)];exact h15
  ·show (T.setIfInBounds 37 _)[16]? = _
   rw [Array.getElem?_setIfInBounds_ne (by decide)];exact h16
end
section
variable {Sh:Loc → Prop} {w1:World} {n0:Nat} {aB:Option Addr} {lB cB:Nat} {m s:Int} {cs:List Frame}
noncomputable def r16:Array Oper:=opsOf (sndS (sndS X3))
noncomputable def K16:List Item:=[.inBlock 3,.code (sndS (sndS B2)),.inLoop B2,.inBlock 2,.inBlock 1,.code (sndS (sndS B0)),.inLoop B0,.inBlock 0]
noncomputable def frW (T:Array Value):Frame:=(base 36).at ⟨T,[]⟩ (.inRegion r16 [0] :: K16)
noncomputable def gB (T:Array Value) (cs:List Frame):Goroutine:=G ((base 36).at ((⟨T,[]⟩:Act).put ((r16[0]?).bind (·.dst)) (.tuple #[])) (.inRegion r16 [] :: K16)) cs
variable {Keep:Nat → Prop} {Pay:World → Prop} {Low Wg:Nat}
def FM (n0 Wg:Nat) (w:World):Prop:=Live link.tWg Wg w ∧ w.heap[n0 + 3]? = some (.cells #[.int .u32 1] 46)
theorem fm_rely (hkp:Keep (n0 + 3)) {w w₁:World} (h:FM n0 Wg w) (r:RM link.tWg Wg Keep w w₁):FM n0 Wg w₁:=⟨r.live h.1,(r.keep _ hkp).trans h.2⟩
theorem fm_cell {w:World} (h:FM n0 Wg w):w.cell? ⟨n0 + 3,0,none⟩ = some (.int .u32 1):=by simp [World.cell?,h.2]
set_option maxRecDepth 100000 in
set_option maxHeartbeats 4000000 in
theorem slice2 (hkp:Keep (n0 + 3)) {g:Goroutine} (hg:Aft n0 aB lB cB m s Wg cs g):∃ T,TS n0 aB lB cB m s T ∧ ∀ (w:World),WgAt link.tWg Wg w KK 0 → w.heap[n0 + 3]? = some (.cells #[.int .u32 1] 46) →
 (∀ w₁,AtRel w w₁ → Eng.Way Tryd.prog false (RK link.tWg Wg) (DK Sh Wg Keep) (KR0 Tryd.prog link.tWg Wg Pay Low) (born Tryd.prog (call46 n0 s Wg)) w₁) →
 WL Tryd.prog Sh Wg (MGo Tryd.prog link.tWg Sh Wg Keep Pay (BackW Tryd.prog Pay (gB T cs)) (HeadW link Wg (frW T) cs) Low) g w:=by
 obtain ⟨T,rfl,⟨hs,h5,h6,h7,h8,h9,h10,h11,h12,h13,h14⟩,h15,h16⟩:=hg
 obtain ⟨v0,v1,v2,v3,v4,v5,v6,v7,v8,v9,v10,v11,v12,v13,v14,v15,v16,v17,v18,v19,v20,v21,v22,v23,v24,v25,v26,v27,v28,v29,v30,v31,v32,v33,v34,v35,v36,v37,v38,v39,v40,v41,v42,rfl⟩:=array43 T hs
 simp only [List.getElem?_toArray,List.getElem?_cons_zero,List.getElem?_cons_succ,Option.some.injEq] at h5 h6 h7 h8 h9 h10 h11 h12 h13 h14 h15 h16
 subst h5 h6 h7 h8 h9 h10 h11 h12 h13 h14 h15 h16
 have H:=wgLib
 refine ⟨#[v0,v1,v2,v3,v4,bp n0,bp (n0 + 1),bp (n0 + 2),bp (n0 + 3),bp (n0 + 4),bp (n0 + 5),bp (n0 + 6),.func (.func 46) #[] #[bp (n0 + 4),bp (n0 + 2),bp (n0 + 1),bp (n0 + 5),bp (n0 + 6),bp n0,bp (n0 + 3)],.int .u32 0,.int .u32 s,bp Wg,.int .u32 1,v17,v18,v19,v20,v21,v22,v23,v24,v25,v26,v27,v28,v29,v30,v31,.int .u32 1,.int .u32 1,.bool false,.int .u32 0,.int .u32 1,v37,.func (.func 46) #[] #[bp (n0 + 4),bp (n0 + 2),bp (n0 + 1),bp (n0 + 5),bp (n0 + 6),bp n0,bp (n0 + 3)],.int .u32 0,.int .u32 s,.int .u32 0,v42],⟨rfl,rfl,rfl,rfl,rfl,rfl,rfl,rfl,rfl,rfl,rfl⟩,fun w hw hthr hch=>way_of atRel_tr (n:=20) ?_⟩
 have hF:AtRel w w:=AtRel.refl w
 simp only [r14,K15,B4,X3,B2,X1,B0,c36,Tryd.f36,Option.getD_some,sndS,fstS,blkC,lpC,opsOf,bp]
 u_in lone_rely hF;rw [stepG_region_end];simp only [goes_go];refine ⟨dl_nil,?_⟩
 u_in lone_rely hF;rw [stepG_region];simp only [goes_go,List.size_toArray,List.length_cons,List.length_nil,Nat.reduceAdd,Nat.zero_add,List.range,List.range.loop];refine ⟨dl_nil,?_⟩
 iterate 4 (u_in lone_rely hF;refine goes_oper_k rfl rfl (by k_ne) (fun K hK=>?_);go_simp;refine hK _ _ ⟨dl_none fun e he=>by have hm:=mem_listed he;simp [go_sem, *] at hm,?_⟩;clear hK K;try w_num)
 refine Goes.stop fun w₁ h₁=>?_
 replace hF:=lone_rely hF h₁
 clear h₁
 refine ⟨rfl,_,born Tryd.prog (call46 n0 s Wg),(stepG_spawn (d:=call46 n0 s Wg) (w':=w₁) (f:=.func 46) (c:=#[bp (n0 + 4),bp (n0 + 2),bp (n0 + 1),bp (n0 + 5),bp (n0 + 6),bp n0,bp (n0 + 3)]) rfl rfl (by decide) (by simp [go_sem,call46,Deferred.ofValue,bp]) rfl).trans (congrArg (fun es=>GStep.spawn _ _ _ es) (Go.Conc.listed_nil (by simp [go_sem,Deferred.ofValue]))),?_,?_,hch _ hF⟩
 ·obtain ⟨d,rfl⟩:=hF;exact hw
 have hF2:FM n0 Wg w₁:=by obtain ⟨d,rfl⟩:=hF;exact ⟨⟨_,_,hw⟩,hthr⟩
 clear hF hw hthr hch
 refine Eng.Way.trans RM.refl RM.tr (Stop:=fun g w=>g = G ((base link.wait).at ⟨#[.pointer (some ⟨Wg,0,none⟩)] ++ Array.replicate 83 undef,[]⟩ [.code (body_wait link)]) (frW #[v0,v1,v2,v3,v4,bp n0,bp (n0 + 1),bp (n0 + 2),bp (n0 + 3),bp (n0 + 4),bp (n0 + 5),bp (n0 + 6),.func (.func 46) #[] #[bp (n0 + 4),bp (n0 + 2),bp (n0 + 1),bp (n0 + 5),bp (n0 + 6),bp n0,bp (n0 + 3)],.int .u32 0,.int .u32 s,bp Wg,.int .u32 1,v17,v18,v19,v20,v21,v22,v23,v24,v25,v26,v27,v28,v29,v30,v31,.int .u32 1,.int .u32 1,.bool false,.int .u32 0,.int .u32 1,v37,.func (.func 46) #[] #[bp (n0 + 4),bp (n0 + 2),bp (n0 + 1),bp (n0 + 5),bp (n0 + 6),bp n0,bp (n0 + 3)],.int .u32 0,.int .u32 s,.int .u32 0,v42] :: cs) ∧ FM n0 Wg w) (way_of RM.tr (n:=30) ?_) ?_
 ·walk_nrm
  u_in (fm_rely hkp) hF2;rw [stepG_region_end];simp only [goes_go];refine ⟨dm_nil,?_⟩
  u_in (fm_rely hkp) hF2;rw [stepG_inBlock];simp only [goes_go];refine ⟨dm_nil,?_⟩
  u_in (fm_rely hkp) hF2;rw [stepG_region];simp only [goes_go,List.size_toArray,List.length_cons,List.length_nil,Nat.reduceAdd,Nat.zero_add,List.range,List.range.loop];refine ⟨dm_nil,?_⟩
  iterate 3 (u_in (fm_rely hkp) hF2;refine goes_oper_k rfl rfl (by k_ne) (fun K hK=>?_);go_simp;refine hK _ _ ⟨dm_none fun e he=>by have hm:=mem_listed he;simp [go_sem, *] at hm,?_⟩;clear hK K;try w_num)
  u_in (fm_rely hkp) hF2;rw [stepG_region_end];simp only [goes_go];refine ⟨dm_nil,?_⟩
  u_in (fm_rely hkp) hF2;rw [stepG_inLoop];simp only [goes_go];refine ⟨dm_nil,?_⟩
  iterate 2 (u_in (fm_rely hkp) hF2;rw [stepG_seq];simp only [goes_go];refine ⟨dm_nil,?_⟩)
  u_in (fm_rely hkp) hF2;rw [stepG_region];simp only [goes_go,List.size_toArray,List.length_cons,List.length_nil,Nat.reduceAdd,Nat.zero_add,List.range,List.range.loop];refine ⟨dm_nil,?_⟩
  u_in (fm_rely hkp) hF2;refine goes_oper_k rfl rfl (by k_ne) (fun K hK=>?_);go_simp;refine hK _ _ ⟨dm_none fun e he=>by have hm:=mem_listed he;simp [go_sem, *] at hm,?_⟩;clear hK K;try w_num
  u_in (fm_rely hkp) hF2
  refine goes_oper_k rfl rfl (by k_ne) (fun K hK=>?_)
  have hc:=fm_cell hF2
  go_simp
  refine hK _ _ ⟨⟨⟨_,rfl⟩,fun e he=>?_⟩,?_⟩
  ·have hm:=mem_listed he
   clear hK
   simp [go_sem,hc] at hm
   subst hm
   refine ⟨⟨fun x hx=>?_,by simp [MemAct.ofEvent],?_⟩,by simp,by simp⟩
   ·rw [Go.ConcX.ofEvent_cell] at hx
    simp only [MemAct.touch?,Option.some.injEq] at hx
    subst hx
    exact .inr ⟨⟨_,rfl,hkp⟩,by simp,rfl⟩
   ·rw [Go.ConcX.ofEvent_cell]
    exact (Array.getElem?_eq_some_iff.1 hF2.2).1
  clear hK K hc
  u_in (fm_rely hkp) hF2;refine goes_oper_k rfl rfl (by k_ne) (fun K hK=>?_);go_simp;refine hK _ _ ⟨dm_none fun e he=>by have hm:=mem_listed he;simp [go_sem, *] at hm,?_⟩;clear hK K;try w_num
  u_in (fm_rely hkp) hF2;rw [stepG_region_end];simp only [goes_go];refine ⟨dm_nil,?_⟩
  u_in (fm_rely hkp) hF2;rw [stepG_cond (t:=false) rfl];simp only [goes_go,if_true,if_false,Bool.false_eq_true,↓reduceIte];refine ⟨dm_nil,?_⟩
  u_in (fm_rely hkp) hF2;refine goes_exit rfl ?_;refine ⟨dm_nil,?_⟩
  u_in (fm_rely hkp) hF2;rw [stepG_region];simp only [goes_go,List.size_toArray,List.length_cons,List.length_nil,Nat.reduceAdd,Nat.zero_add,List.range,List.range.loop];refine ⟨dm_nil,?_⟩
  u_in (fm_rely hkp) hF2;refine goes_call rfl rfl (by k_ne) rfl H.f_wait (nm_wait link) rfl ⟨dm_nil,?_⟩;walk_nrmf waitFn
  exact Goes.stop fun w₂ h₂=>⟨rfl,fm_rely hkp hF2 h₂⟩
 ·rintro g w ⟨rfl,hF⟩
  exact waitStart' (ops₀:=r16) (rest₀:=[]) (k₀:=K16) H w hF.1
end
end
section
open Go Go.Eng Conc Conc.Lib RowKit
open Go.ConcX (stA smA OfWg WgAt wgBlock KK rd wr mk RCa RCd KCa DC0)
open Go.ConcX.Gen
section
variable {Sh:Loc → Prop} {n0 Wg:Nat} {aB:Option Addr} {lB cB:Nat} {m s:Int} {cs:List Frame}
set_option maxRecDepth 100000 in
set_option maxHeartbeats 4000000 in
theorem slice3a {T:Array Value} (hT:TS n0 aB lB cB m s T) (hs3:s = 0 ∨ s = 1 ∨ s = 2) (w:World):WL Tryd.prog Sh Wg (fun g w'=>(∃ T',g = gS T' cs ∧ TS n0 aB lB cB m (s + 1) T') ∧ AtRel w w') (gB T cs) w:=by
 obtain ⟨hs,h5,h6,h7,h8,h9,h10,h11,h12,h13,h14⟩:=hT
 obtain ⟨v0,v1,v2,v3,v4,v5,v6,v7,v8,v9,v10,v11,v12,v13,v14,v15,v16,v17,v18,v19,v20,v21,v22,v23,v24,v25,v26,v27,v28,v29,v30,v31,v32,v33,v34,v35,v36,v37,v38,v39,v40,v41,v42,rfl⟩:=array43 T hs
 simp only [List.getElem?_toArray,List.getElem?_cons_zero,List.getElem?_cons_succ,Option.some.injEq] at h5 h6 h7 h8 h9 h10 h11 h12 h13 h14
 subst h5 h6 h7 h8 h9 h10 h11 h12 h13 h14
 refine way_of atRel_tr (n:=40) ?_
 have hF:AtRel w w:=AtRel.refl w
 clear hs
 simp only [gB,r16,K16,X3,B2,X1,B0,c36,Tryd.f36,Option.getD_some,sndS,fstS,blkC,lpC,opsOf,bp]
 walk_nrm
 rcases hs3 with rfl | rfl | rfl
 all_goals
  u_in lone_rely hF;rw [stepG_region_end];simp only [goes_go];refine ⟨dl_nil,?_⟩
  u_in lone_rely hF;rw [stepG_inBlock];simp only [goes_go];refine ⟨dl_nil,?_⟩
  u_in lone_rely hF;rw [stepG_region];simp only [goes_go,List.size_toArray,List.length_cons,List.length_nil,Nat.reduceAdd,Nat.zero_add,List.range,List.range.loop];refine ⟨dl_nil,?_⟩
  iterate 3 (u_in lone_rely hF;refine goes_oper_k rfl rfl (by k_ne) (fun K hK=>?_);go_simp;refine hK _ _ ⟨dl_none fun e he=>by have hm:=mem_listed he;simp [go_sem, *] at hm,?_⟩;clear hK K;try w_num)
  u_in lone_rely hF;rw [stepG_region_end];simp only [goes_go];refine ⟨dl_nil,?_⟩
  u_in lone_rely hF;rw [stepG_inLoop];simp only [goes_go];refine ⟨dl_nil,?_⟩
  iterate 2 (u_in lone_rely hF;rw [stepG_seq];simp only [goes_go];refine ⟨dl_nil,?_⟩)
  u_in lone_rely hF;rw [stepG_region];simp only [goes_go,List.size_toArray,List.length_cons,List.length_nil,Nat.reduceAdd,Nat.zero_add,List.range,List.range.loop];refine ⟨dl_nil,?_⟩
  iterate 2 (u_in lone_rely hF;refine goes_oper_k rfl rfl (by k_ne) (fun K hK=>?_);go_simp;refine hK _ _ ⟨dl_none fun e he=>by have hm:=mem_listed he;simp [go_sem, *] at hm,?_⟩;clear hK K;try w_num)
  u_in lone_rely hF;rw [stepG_region_end];simp only [goes_go];refine ⟨dl_nil,?_⟩
  u_in lone_rely hF;rw [stepG_cond (t:=true) rfl];simp only [goes_go,if_true,if_false,Bool.false_eq_true,↓reduceIte];refine ⟨dl_nil,?_⟩
  u_in lone_rely hF;rw [stepG_skip];simp only [goes_go];refine ⟨dl_nil,?_⟩
  u_in lone_rely hF;rw [stepG_seq];simp only [goes_go];refine ⟨dl_nil,?_⟩
  u_in lone_rely hF;rw [stepG_block];simp only [goes_go];refine ⟨dl_nil,?_⟩
  exact Goes.stop fun w₁ h₁=>⟨⟨_,rfl,⟨rfl,rfl,rfl,rfl,rfl,rfl,rfl,rfl,rfl,rfl,rfl⟩⟩,lone_rely hF h₁⟩
def FL (n0:Nat) (w0 w:World):Prop:=AtRel w0 w ∧ w.heap[n0 + 1]? = some (.cells #[.int .u32 1] 46)
theorem fl_rely {w0 w w₁:World} (h:FL n0 w0 w) (r:AtRel w w₁):FL n0 w0 w₁:=⟨atRel_tr _ _ _ h.1 r,by obtain ⟨d,rfl⟩:=r;exact h.2⟩
theorem fl_cell {w0 w:World} (h:FL n0 w0 w):w.cell? ⟨n0 + 1,0,none⟩ = some (.int .u32 1):=by simp [World.cell?,h.2]
set_option maxRecDepth 100000 in
set_option maxHeartbeats 4000000 in
theorem slice3b {T:Array Value} (hT:TS n0 aB lB cB m 3 T) (w:World) (htime:w.heap[n0 + 1]? = some (.cells #[.int .u32 1] 46)) (hns:¬ Sh (.cell ⟨n0 + 1,0,none⟩)) (hne:n0 + 1 ≠ Wg) :
 WL Tryd.prog Sh Wg (fun g w'=>(∃ T',g = G { (base 36).at ⟨T',[]⟩ [] with mode:=.returning } cs) ∧ AtRel w w') (gB T cs) w:=by
 obtain ⟨hs,h5,h6,h7,h8,h9,h10,h11,h12,h13,h14⟩:=hT
 obtain ⟨v0,v1,v2,v3,v4,v5,v6,v7,v8,v9,v10,v11,v12,v13,v14,v15,v16,v17,v18,v19,v20,v21,v22,v23,v24,v25,v26,v27,v28,v29,v30,v31,v32,v33,v34,v35,v36,v37,v38,v39,v40,v41,v42,rfl⟩:=array43 T hs
 simp only [List.getElem?_toArray,List.getElem?_cons_zero,List.getElem?_cons_succ,Option.some.injEq] at h5 h6 h7 h8 h9 h10 h11 h12 h13 h14
 subst h5 h6 h7 h8 h9 h10 h11 h12 h13 h14
 refine way_of atRel_tr (n:=60) ?_
 have hF:FL n0 w w:=⟨AtRel.refl w,htime⟩
 clear hs
 simp only [gB,r16,K16,X3,B2,X1,B0,c36,Tryd.f36,Option.getD_some,sndS,fstS,blkC,lpC,opsOf,bp]
 walk_nrm
 u_in fl_rely hF;rw [stepG_region_end];simp only [goes_go];refine ⟨dl_nil,?_⟩
 u_in fl_rely hF;rw [stepG_inBlock];simp only [goes_go];refine ⟨dl_nil,?_⟩
 u_in fl_rely hF;rw [stepG_region];simp only [goes_go,List.size_toArray,List.length_cons,List.length_nil,Nat.reduceAdd,Nat.zero_add,List.range,List.range.loop];refine ⟨dl_nil,?_⟩
 iterate 3 (u_in fl_rely hF;refine goes_oper_k rfl rfl (by k_ne) (fun K hK=>?_);go_simp;refine hK _ _ ⟨dl_none fun e he=>by have hm:=mem_listed he;simp [go_sem, *] at hm,?_⟩;clear hK K;try w_num)
 u_in fl_rely hF;rw [stepG_region_end];simp only [goes_go];refine ⟨dl_nil,?_⟩
 u_in fl_rely hF;rw [stepG_inLoop];simp only [goes_go];refine ⟨dl_nil,?_⟩
 iterate 2 (u_in fl_rely hF;rw [stepG_seq];simp only [goes_go];refine ⟨dl_nil,?_⟩)
 u_in fl_rely hF;rw [stepG_region];simp only [goes_go,List.size_toArray,List.length_cons,List.length_nil,Nat.reduceAdd,Nat.zero_add,List.range,List.range.loop];refine ⟨dl_nil,?_⟩
 iterate 2 (u_in fl_rely hF;refine goes_oper_k rfl rfl (by k_ne) (fun K hK=>?_);go_simp;refine hK _ _ ⟨dl_none fun e he=>by have hm:=mem_listed he;simp [go_sem, *] at hm,?_⟩;clear hK K;try w_num)
 u_in fl_rely hF;rw [stepG_region_end];simp only [goes_go];refine ⟨dl_nil,?_⟩
 u_in fl_rely hF;rw [stepG_cond (t:=false) rfl];simp only [goes_go,if_true,if_false,Bool.false_eq_true,↓reduceIte];refine ⟨dl_nil,?_⟩
 u_in fl_rely hF;refine goes_exit rfl ?_;refine ⟨dl_nil,?_⟩
 u_in fl_rely hF;rw [stepG_inBlock];simp only [goes_go];refine ⟨dl_nil,?_⟩
 u_in fl_rely hF;rw [stepG_region];simp only [goes_go,List.size_toArray,List.length_cons,List.length_nil,Nat.reduceAdd,Nat.zero_add,List.range,List.range.loop];refine ⟨dl_nil,?_⟩
 iterate 3 (u_in fl_rely hF;refine goes_oper_k rfl rfl (by k_ne) (fun K hK=>?_);go_simp;refine hK _ _ ⟨dl_none fun e he=>by have hm:=mem_listed he;simp [go_sem, *] at hm,?_⟩;clear hK K;try w_num)
 u_in fl_rely hF;rw [stepG_region_end];simp only [goes_go];refine ⟨dl_nil,?_⟩
 u_in fl_rely hF;rw [stepG_inLoop];simp only [goes_go];refine ⟨dl_nil,?_⟩
 iterate 2 (u_in fl_rely hF;rw [stepG_seq];simp only [goes_go];refine ⟨dl_nil,?_⟩)
 u_in fl_rely hF;rw [stepG_region];simp only [goes_go,List.size_toArray,List.length_cons,List.length_nil,Nat.reduceAdd,Nat.zero_add,List.range,List.range.loop];refine ⟨dl_nil,?_⟩
 u_in fl_rely hF;refine goes_oper_k rfl rfl (by k_ne) (fun K hK=>?_);go_simp;refine hK _ _ ⟨dl_none fun e he=>by have hm:=mem_listed he;simp [go_sem, *] at hm,?_⟩;clear hK K;try w_num
 u_in fl_rely hF
 refine goes_oper_k rfl rfl (by k_ne) (fun K hK=>?_)
 have hc:=fl_cell hF
 go_simp
 refine hK _ _ ⟨⟨Nat.le_refl _,fun e he=>?_⟩,?_⟩
 ·have hm:=mem_listed he
  clear hK
  simp [go_sem,hc] at hm
  subst hm
  exact ⟨lt_cell false hne hns (Array.getElem?_eq_some_iff.1 hF.2).1,by simp,by simp⟩
 clear hK K hc
 u_in fl_rely hF;refine goes_oper_k rfl rfl (by k_ne) (fun K hK=>?_);go_simp;refine hK _ _ ⟨dl_none fun e he=>by have hm:=mem_listed he;simp [go_sem, *] at hm,?_⟩;clear hK K;try w_num
 u_in fl_rely hF;rw [stepG_region_end];simp only [goes_go];refine ⟨dl_nil,?_⟩
 u_in fl_rely hF;rw [stepG_cond (t:=false) rfl];simp only [goes_go,if_true,if_false,Bool.false_eq_true,↓reduceIte];refine ⟨dl_nil,?_⟩
 u_in fl_rely hF;refine goes_exit rfl ?_;refine ⟨dl_nil,?_⟩
 u_in fl_rely hF;rw [stepG_end];simp only [goes_go];refine ⟨dl_nil,?_⟩
 exact Goes.stop fun w₁ h₁=>⟨⟨_,rfl⟩,(fl_rely hF h₁).1⟩
end
end
end Go.Proofs.YtineimjmnbjdlaaDoor
namespace Go.Eng
open Conc
open Go.ConcX (stA smA OfWg WgAt KK rd wr mk RCa RCd KCa DC0)
section
variable {P:Program} {m0:Machine} {Sh:Loc → Prop} {Wg d:Nat} {gs:Array Goroutine} {a:Goroutine} {w:World} {sl:Option (Nat × Nat)} {T:Trace} {q:Nat → Nat} {F:FuncId}
theorem atRel_back (w:World) (d:Nat):AtRel (w.at d) w:=⟨w.drawn,rfl⟩
theorem Lone.to {Stop:Stops} (hSr:∀ g w,Stop g w → g.status = .running) (hSat:∀ g w w₁,AtRel w w₁ → Stop g w → Stop g w₁) (h:Lone P m0 Sh Wg d gs a w sl T q) (hw:WL P Sh Wg Stop a w) :
 ∃ gs' a' w' sl' T' q',Lone P m0 Sh Wg d gs' a' w' sl' T' q' ∧ gs'.size = gs.size ∧ w.heap.size ≤ w'.heap.size ∧ Stop a' w':=by
 obtain ⟨gs',a',w',sl',T',q',dd,sl'',h1,h2,h3,_,h5⟩:=h.walk hSr hw
 exact ⟨gs',a',w',sl',T',q',h1,h2,h3,hSat _ _ _ (atRel_back w' dd) h5⟩
theorem Lone.toMark {m:Mark} {Next:Goroutine → World → Prop} (hm:m = .disable ∨ m = .enable) (h:Lone P m0 Sh Wg d gs a w sl T q) (hw:WL P Sh Wg (MMark P m Next) a w) :
 ∃ gs' a' w' sl' T' q',Lone P m0 Sh Wg (deafBehind d #[Go.ConcX.mk m]) gs' a' w' sl' T' q' ∧ gs'.size = gs.size ∧ w.heap.size ≤ w'.heap.size ∧ Next a' w':=by
 obtain ⟨gs',a',w',sl',T',q',dd,sl'',h1,h2,h3,h4,_,a'',hgo,hN⟩:=h.walk (fun _ _ x=>x.1) hw
 refine ⟨_,a'',w'.at dd,sl'',_,q',h1.step h4 hgo (Nat.le_refl _) fun e he=>?_,by simpa using h2,h3,hN⟩
 rw [Array.mem_singleton] at he
 subst he
 rcases hm with rfl | rfl
 ·exact ⟨fun x hx=>(by cases hx),by simp [MemAct.ofEvent,Go.ConcX.mk],trivial⟩
 ·exact ⟨fun x hx=>(by cases hx),by simp [MemAct.ofEvent,Go.ConcX.mk],trivial⟩
theorem FrmAt.lone (h:FrmAt P m0 F Sh gs a w sl T q) (hW:w.heap.size ≤ Wg):Lone P m0 Sh Wg 0 gs a w sl T q:=⟨h.run,h.h0,h.lv,LT.of_past h.past hW⟩
theorem LT.past {B:Nat} (h:LT Sh Wg B 0 T):Past Sh B T:=⟨h.clean,h.known,h.over,h.deaf,h.seen⟩
theorem Lone.frm (h:Lone P m0 Sh Wg 0 gs a w sl T q) (hs:∀ l,Sh l → ∃ a,l = .cell a ∧ a.block < w.heap.size ∧ Born P m0 F a.block):FrmAt P m0 F Sh gs a w sl T q:=⟨h.run,h.h0,h.lv,h.lt.past,hs⟩
end
end Go.Eng
namespace Go.Proofs.YtineimjmnbjdlaaDoor
open Go Go.Eng Conc Conc.Lib RowKit
open Go.ConcX (stA smA OfWg WgAt wgBlock KK rd wr mk RCa RCd KCa DC0)
def KeepB (n0:Nat) (b:Nat):Prop:=n0 ≤ b ∧ b < n0 + 7
def GoAt (w1 w:World):Prop:=∃ w2,AtRel (w1.alloc wgNew) w2 ∧ AtRel (w2.setCell (stA w1.heap.size) (.int .u64 KK)) w
section
variable {m0:Machine} {Sh:Loc → Prop} {gs:Array Goroutine} {w1:World} {sl:Option (Nat × Nat)} {T:Trace} {q:Nat → Nat} {n0:Nat} {aB:Option Addr} {lB cB:Nat} {m s:Int} {cs:List Frame} {V:Array Value} {Pay:World → Prop} {Low:Nat}
theorem goAt_heap {w:World} (h:GoAt w1 w):WgAt link.tWg w1.heap.size w KK 0 ∧ w.heap.size = w1.heap.size + 1 ∧ ∀ c,c < w1.heap.size → w.heap[c]? = w1.heap[c]?:=by
 obtain ⟨w2,⟨d,rfl⟩,⟨d',rfl⟩⟩:=h
 have hwg:WgAt link.tWg w1.heap.size (w1.alloc wgNew) 0 0:=wg_of_ext (Ext.alloc (Ext.refl w1) wgNew)
 have hA:=aside_setCell ((w1.alloc wgNew).at d) (stA w1.heap.size) (.int .u64 KK)
 have e:(w1.alloc wgNew).heap = w1.heap.push wgNew:=by simp [World.alloc,-World.alloc_eq]
 refine ⟨(show WgAt link.tWg w1.heap.size ((w1.alloc wgNew).at d) 0 0 from hwg).setSt KK,?_,fun c hc=>?_⟩
 ·refine hA.size.trans ?_
  show (w1.alloc wgNew).heap.size = _
  rw [e];simp
 ·refine (hA.block c (show c ≠ w1.heap.size by omega)).trans ?_
  show (w1.alloc wgNew).heap[c]? = _
  rw [e,Array.getElem?_push_lt hc];simp [hc]
theorem slice_run (hF:FrmAt Tryd.prog m0 36 Sh gs (gS V cs) w1 sl T q) (hT:TS n0 aB lB cB m s V) (hn:n0 + 7 ≤ w1.heap.size) (hthr:w1.heap[n0 + 3]? = some (.cells #[.int .u32 1] 46)) (hks:∀ a:Addr,KeepB n0 a.block → ¬ Sh (.cell a))
 (hLow:w1.heap.size < Low) (hPay:∀ w w',Aside w1.heap.size w w' → Pay w → Pay w') (hPsz:∀ w,Pay w → w1.heap.size < w.heap.size)
 (hch:∀ w,GoAt w1 w → Eng.Way Tryd.prog false (RK link.tWg w1.heap.size) (DK Sh w1.heap.size (KeepB n0)) (KR0 Tryd.prog link.tWg w1.heap.size Pay Low) (born Tryd.prog (call46 n0 s w1.heap.size)) w) :
 ∃ gs' V' w' sl' T' q',FrmAt Tryd.prog m0 36 (fun l=>Sh l ∨ OfWg w1.heap.size l) gs' (gB V' cs) w' sl' T' q' ∧ TS n0 aB lB cB m s V' ∧ Pay w':=by
 have hns:¬ Sh (.cell ⟨n0 + 3,0,none⟩):=hks ⟨n0 + 3,0,none⟩ ⟨by show n0 ≤ n0 + 3;omega,by show n0 + 3 < n0 + 7;omega⟩
 obtain ⟨gsA,aA,wA,slA,TA,qA,dA,slA',hA,hszA,_,hstA,rfl,hrA⟩:=(hF.lone (Nat.le_refl _)).walk (fun g w h=>by rw [h.1];rfl) (slice1a (Sh:=Sh) (cs:=cs) (Wg:=w1.heap.size) V w1)
 have hsz:wA.heap.size = w1.heap.size:=by obtain ⟨d,e⟩:=hrA;have:=congrArg (fun w:World=>w.heap.size) e;exact this
 have hstep:=slice_alloc (cs:=cs) V (wA.at dA)
 have hB:=hA.step hstA hstep (by exact alloc_le _ _) (fun e he=>by simp at he)
 have e1:(wA.at dA).heap.size = w1.heap.size:=hsz
 rw [e1] at hB
 have hborn:Born Tryd.prog m0 36 w1.heap.size:=by
  obtain ⟨J,hR⟩:=hA.run
  have hrunT:=runT_crowd_go (P:=Tryd.prog) (sl:=slA') (i:=0) hA.h0 (show stepG Tryd.prog (0 == 0) _ (wA.at dA) = _ from hstep)
  refine (born_iff hR (hstA.trans hrunT) hA.h0 (by show wA.heap.size ≤ _;omega) ?_).2 rfl
  show w1.heap.size < ((wA.at dA).alloc wgNew).heap.size
  have e2:((wA.at dA).alloc wgNew).heap.size = wA.heap.size + 1:=by simp [World.alloc,-World.alloc_eq];rfl
  omega
 have hw2:AtRel (w1.alloc wgNew) ((wA.at dA).alloc wgNew):=by obtain ⟨d,e⟩:=hrA;rw [e];exact ⟨d,rfl⟩
 generalize hw2e:(wA.at dA).alloc wgNew = w2 at hB hw2
 have hthr2:w2.heap[n0 + 3]? = some (.cells #[.int .u32 1] 46):=by
  obtain ⟨d,rfl⟩:=hw2
  show (w1.alloc wgNew).heap[n0 + 3]? = _
  have e:(w1.alloc wgNew).heap = w1.heap.push wgNew:=by simp [World.alloc,-World.alloc_eq]
  rw [e,Array.getElem?_push_lt (by omega)]
  rw [← hthr,Array.getElem?_eq_getElem (by omega)]
 have hwg2:WgAt link.tWg w1.heap.size w2 0 0:=by obtain ⟨d,rfl⟩:=hw2;exact (show WgAt link.tWg w1.heap.size (w1.alloc wgNew) 0 0 from wg_of_ext (Ext.alloc (Ext.refl w1) wgNew))
 have hgo:=slice1 (Sh:=Sh) (cs:=cs) (hT.put (i:=15) (by decide) (bp w1.heap.size)) (Wg:=w1.heap.size) (by rw [Array.getElem?_setIfInBounds_self_of_lt (by rw [hT.size];decide)]) hwg2 hthr2 hns (by omega) w2 (Ext.refl w2)
  (Stop:=fun g w=>∃ V',TS n0 aB lB cB m s V' ∧ MGo Tryd.prog link.tWg Sh w1.heap.size (KeepB n0) Pay (BackW Tryd.prog Pay (gB V' cs)) (HeadW link w1.heap.size (frW V') cs) Low g w)
  (fun g w hg ⟨w2',h1,h2⟩=>by
   obtain ⟨V',hV,hgo⟩:=slice2 (Sh:=Sh) (Keep:=KeepB n0) (Pay:=Pay) (Low:=Low) ⟨by omega,by omega⟩ hg
   have hGo:GoAt w1 w:=⟨w2',atRel_tr _ _ _ hw2 h1,h2⟩
   obtain ⟨k1,k2,k3⟩:=goAt_heap hGo
   exact (hgo w k1 (by rw [k3 _ (by omega)];exact hthr) (fun w₁ h₁=>hch w₁ (by obtain ⟨x,y,z⟩:=hGo;exact ⟨x,y,atRel_tr _ _ _ z h₁⟩))).mono fun g w h=>⟨V',hV,h⟩)
 obtain ⟨gsC,aC,wC,slC,TC,qC,hC,hszC,_,hwC⟩:=hB.toMark (.inl rfl) hgo
 obtain ⟨gsD,aD,wD,slD,TD,qD,hD,hszD,_,hwD⟩:=hC.toMark (.inr rfl) hwC
 obtain ⟨gsE,aE,wE,slE,TE,qE,dE,slE',hE,hszE,_,hstE,V',hV',hMGo⟩:=hD.walk (fun g w h=>by obtain ⟨_,_,h⟩:=h;exact h.1) hwD
 have hdone:=hE.phase (fun h=>by have:=h.2;omega) hks (fun l hl=>let ⟨a,e,_⟩:=hF.shun l hl;⟨a,e⟩) hLow hPay (fun g w h=>headW_run h) (fun g w h=>waitRound' (ops₀:=r16) (i₀:=0) (rest₀:=[]) (k₀:=K16) wgLib hPay g w h) hstE hMGo
 obtain ⟨J,gsF,aF,wF,slF,TF,qF,hRF,_,h0F,hLF,hPF,⟨nF,hBack⟩,hPayF⟩:=hdone
 have hshun:∀ n,w1.heap.size < n → ∀ l,(Sh l ∨ OfWg w1.heap.size l) → ∃ a,l = .cell a ∧ a.block < n ∧ Born Tryd.prog m0 36 a.block:=by
  rintro n hn l (hl | ⟨a,rfl,ha⟩)
  ·obtain ⟨a,e,h1,h2⟩:=hF.shun l hl
   exact ⟨a,e,by omega,h2⟩
  ·exact ⟨a,rfl,by omega,by rw [ha];exact hborn⟩
 have hszF:w1.heap.size < wF.heap.size:=hPsz _ hPayF
 have hFF:FrmAt Tryd.prog m0 36 (fun l=>Sh l ∨ OfWg w1.heap.size l) gsF aF wF slF TF qF:=⟨⟨J,hRF⟩,h0F,hLF,hPF,hshun _ hszF⟩
 have hway:WL Tryd.prog (fun l=>Sh l ∨ OfWg w1.heap.size l) wF.heap.size (fun g w=>g = gB V' cs ∧ Pay w) aF wF:=
  Eng.Way.weaken (fun _ _ h=>h) (fun a b es h=>by obtain ⟨rfl,rfl⟩:=h;exact dl_none (by simp)) (way_of atRel_tr hBack)
 obtain ⟨gsG,aG,wG,slG,TG,qG,hG,_,hleG,rfl,hPG⟩:=(hFF.lone (Nat.le_refl _)).to (fun g w h=>by rw [h.1];rfl) (fun g w w₁ hr h=>⟨h.1,at_rely0 hPay h.2 hr⟩) hway
 exact ⟨gsG,V',wG,slG,TG,qG,hG.frm (hshun _ (by omega)),hV',hPG⟩
end
end Go.Proofs.YtineimjmnbjdlaaDoor
namespace Go.Proofs.YtineimjmnbjdlaaDoor
section
open Go Go.Eng Conc Conc.Lib RowKit
open Go.ConcX (stA smA OfWg WgAt wgBlock KK RCa RCd KCa DC0)
def CellsAt (b:Nat) (A:Obj → Prop) (w:World):Prop:=∃ o,A o ∧ w.heap[b]? = some o
theorem CellsAt.of {b:Nat} {A:Obj → Prop} {w w':World} (h:CellsAt b A w) (e:w'.heap[b]? = w.heap[b]?):CellsAt b A w':=by
 obtain ⟨o,h1,h2⟩:=h
 exact ⟨o,h1,e.trans h2⟩
theorem CellsAt.lt {b:Nat} {A:Obj → Prop} {w:World} (h:CellsAt b A w):b < w.heap.size:=by
 obtain ⟨o,h1,h2⟩:=h
 exact (Array.getElem?_eq_some_iff.1 h2).1
def BoxesIn (n0:Nat) (aB:Option Addr) (lB cB:Nat) (m:Int) (w:World):Prop:=∀ i o,(boxes aB lB cB m)[i]? = some o → w.heap[n0 + i]? = some o
structure QS (w0:World) (aB:Option Addr) (lB cB:Nat) (m:Int) (bB:Nat) (ety:TypeId) (X:Nat → Obj → Prop) (s:Nat) (w:World):Prop where
 os:w.os = w0.os
 tape:w.tape = w0.tape
 output:w.output = w0.output
 size:w0.heap.size + 7 ≤ w.heap.size
 boxes:BoxesIn w0.heap.size aB lB cB m w
 old:∀ c,c < w0.heap.size → c ≠ bB → w.heap[c]? = w0.heap[c]?
 cont:CellsAt bB (X s) w
section
variable {m0:Machine} {Sh:Loc → Prop} {gs:Array Goroutine} {w0:World} {sl:Option (Nat × Nat)} {T:Trace} {q:Nat → Nat} {aB:Option Addr} {lB cB:Nat} {m:Int} {cs:List Frame} {bB:Nat} {ety:TypeId} {X:Nat → Obj → Prop}
theorem QS.at {s:Nat} {w w₁:World} (h:QS w0 aB lB cB m bB ety X s w) (r:AtRel w w₁):QS w0 aB lB cB m bB ety X s w₁:=by
 obtain ⟨d,rfl⟩:=r
 exact ⟨h.os,h.tape,h.output,h.size,h.boxes,h.old,h.cont⟩
theorem QS.aside {s:Nat} {w w₁:World} (h:QS w0 aB lB cB m bB ety X s w) {Wg:Nat} (hb:bB < w0.heap.size) (hW:w0.heap.size + 7 ≤ Wg) (r:Aside Wg w w₁):QS w0 aB lB cB m bB ety X s w₁:=
 ⟨r.os.trans h.os,r.tape.trans h.tape,r.output.trans h.output,by rw [r.size];exact h.size,fun i o hi=>(r.block _ (by
  have:i < 7:=(List.getElem?_eq_some_iff.1 hi).1
  omega)).trans (h.boxes i o hi),fun c hc hn=>(r.block c (by omega)).trans (h.old c hc hn),h.cont.of (r.block bB (by omega))⟩
def WorkerOk (m0:Machine) (w0:World) (aB:Option Addr) (lB cB:Nat) (m:Int) (bB:Nat) (ety:TypeId) (X:Nat → Obj → Prop) (s:Nat):Prop:=
 ∀ (Sh:Loc → Prop) (w1:World),QS w0 aB lB cB m bB ety X s w1 → (∀ l,Sh l → ∃ a,l = .cell a ∧ a.block < w1.heap.size ∧ Born Tryd.prog m0 36 a.block) → (∀ a:Addr,KeepB w0.heap.size a.block → ¬ Sh (.cell a)) →
  ∃ Low,w1.heap.size < Low ∧ ∀ w,GoAt w1 w → Eng.Way Tryd.prog false (RK link.tWg w1.heap.size) (DK Sh w1.heap.size (KeepB w0.heap.size)) (KR0 Tryd.prog link.tWg w1.heap.size (fun w=>QS w0 aB lB cB m bB ety X (s + 1) w ∧ w1.heap.size < w.heap.size) Low) (born Tryd.prog (call46 w0.heap.size s w1.heap.size)) w
theorem slice_next (hb:bB < w0.heap.size) {s:Nat} (hW:WorkerOk m0 w0 aB lB cB m bB ety X s) {V:Array Value} {w1:World} (hF:FrmAt Tryd.prog m0 36 Sh gs (gS V cs) w1 sl T q) (hT:TS w0.heap.size aB lB cB m s V) (hQ:QS w0 aB lB cB m bB ety X s w1) (hks:∀ a:Addr,KeepB w0.heap.size a.block → ¬ Sh (.cell a)) :
 ∃ Sh' gs' V' w' sl' T' q',FrmAt Tryd.prog m0 36 Sh' gs' (gB V' cs) w' sl' T' q' ∧ TS w0.heap.size aB lB cB m s V' ∧ QS w0 aB lB cB m bB ety X (s + 1) w' ∧ ∀ a:Addr,KeepB w0.heap.size a.block → ¬ Sh' (.cell a):=by
 obtain ⟨Low,hLow,hch⟩:=hW Sh w1 hQ hF.shun hks
 obtain ⟨gs',V',w',sl',T',q',h1,h2,h3⟩:=slice_run (Pay:=fun w=>QS w0 aB lB cB m bB ety X (s + 1) w ∧ w1.heap.size < w.heap.size) hF hT hQ.size (hQ.boxes 3 _ rfl) hks hLow (fun w w' r h=>⟨h.1.aside hb hQ.size r,by rw [r.size];exact h.2⟩) (fun w h=>h.2) hch
 refine ⟨_,gs',V',w',sl',T',q',h1,h2,h3.1,fun a ha hs=>?_⟩
 rcases hs with hs | ⟨b,e,hb'⟩
 ·exact hks a ha hs
 ·cases e
  have:=ha.2
  have:=hQ.size
  omega
theorem slice_step {s:Nat} (hs:s = 0 ∨ s = 1 ∨ s = 2) {V:Array Value} {w1:World} (hF:FrmAt Tryd.prog m0 36 Sh gs (gB V cs) w1 sl T q) (hT:TS w0.heap.size aB lB cB m s V) (hQ:QS w0 aB lB cB m bB ety X (s + 1) w1) :
 ∃ gs' V' w' sl' T' q',FrmAt Tryd.prog m0 36 Sh gs' (gS V' cs) w' sl' T' q' ∧ TS w0.heap.size aB lB cB m ((s + 1:Nat):Int) V' ∧ QS w0 aB lB cB m bB ety X (s + 1) w':=by
 obtain ⟨gs',a',w',sl',T',q',h1,_,hle,⟨V',rfl,hV⟩,hr⟩:=(hF.lone (Nat.le_refl _)).to (Stop:=fun g w'=>(∃ V',g = gS V' cs ∧ TS w0.heap.size aB lB cB m (s + 1) V') ∧ AtRel w1 w') (fun g w h=>by obtain ⟨⟨_,rfl,_⟩,_⟩:=h;rfl) (fun g w w₁ hr h=>⟨h.1,atRel_tr _ _ _ h.2 hr⟩)
  (slice3a hT (by omega) w1)
 exact ⟨gs',V',w',sl',T',q',h1.frm (fun l hl=>let ⟨a,e,x,y⟩:=hF.shun l hl;⟨a,e,by omega,y⟩),hV,hQ.at hr⟩
noncomputable def gEnter (aB:Option Addr) (lB cB:Nat) (m:Int) (cs:List Frame):Goroutine:=G (Frame.enter Tryd.prog 36 #[.slice aB lB cB,.int .u32 1,.int .u32 8,.int .u32 1,.int .i64 m] .normal) cs
noncomputable def frRet (V:Array Value):Frame:={ (base 36).at ⟨V,[]⟩ [] with mode:=.returning }
theorem enter36:gEnter aB lB cB m cs = G ((base 36).at ⟨#[.slice aB lB cB,.int .u32 1,.int .u32 8,.int .u32 1,.int .i64 m,undef,undef,undef,undef,undef,undef,undef,undef,undef,undef,undef,undef,undef,undef,undef,undef,undef,undef,undef,undef,undef,undef,undef,undef,undef,undef,undef,undef,undef,undef,undef,undef,undef,undef,undef,undef,undef,undef],[]⟩ [.code (Tryd.f36.body.getD .skip)]) cs:=by
 unfold gEnter
 have hb:Tryd.f36.body = some (Tryd.f36.body.getD .skip):=by unfold Tryd.f36;simp only [Option.getD_some]
 have hn:Tryd.f36.ntmps = 43:=by unfold Tryd.f36;rfl
 rw [enter_at _ Tryd.func36 hb,hn]
 simp only [List.size_toArray,List.length_cons,List.length_nil,Nat.reduceAdd,Nat.reduceSub,Array.replicate,List.replicate]
 simp only [List.append_toArray,List.cons_append,List.nil_append]
theorem blocks_run (hb:bB < w0.heap.size) (hX:CellsAt bB (X 0) w0) (hW:∀ s,s < 4 → WorkerOk m0 w0 aB lB cB m bB ety X s) (hF:FrmAt Tryd.prog m0 36 Sh gs (gEnter aB lB cB m cs) w0 sl T q) :
 ∃ Sh' gs' V' w' sl' T' q',FrmAt Tryd.prog m0 36 Sh' gs' (G (frRet V') cs) w' sl' T' q' ∧ QS w0 aB lB cB m bB ety X 4 w':=by
 have hsh:∀ a:Addr,Sh (.cell a) → a.block < w0.heap.size:=fun a ha=>by obtain ⟨b,e,h,_⟩:=hF.shun _ ha;cases e;exact h
 have hks:∀ a:Addr,KeepB w0.heap.size a.block → ¬ Sh (.cell a):=fun a ha hs=>by have:=hsh a hs;have:=ha.1;omega
 have hway:WL Tryd.prog Sh (w0.heap.size + 7) (SliceAt w0 aB lB cB m cs) (gEnter aB lB cB m cs) w0:=by rw [enter36];exact way_of atRel_tr (e0 hsh w0 (Ext.refl w0))
 obtain ⟨gs1,a1,w1,sl1,T1,q1,h1,_,hle1,V1,rfl,hV1,hE1⟩:=(hF.lone (Nat.le_add_right _ _)).to (fun g w h=>by obtain ⟨_,rfl,_⟩:=h;rfl) (fun g w w₁ hr ⟨V,h1,h2,h3⟩=>⟨V,h1,h2,h3.rely hr⟩) hway
 have hsz1:w1.heap.size = w0.heap.size + 7:=hE1.size
 have hQ0:QS w0 aB lB cB m bB ety X 0 w1:=⟨hE1.os,hE1.tape,hE1.output,by omega,fun i o hi=>hE1.at i hi,fun c hc _=>hE1.old hc,hX.of (hE1.old hb)⟩
 have hF1:=h1.frm (F:=36) (fun l hl=>let ⟨a,e,x,y⟩:=hF.shun l hl;⟨a,e,by omega,y⟩)
 obtain ⟨ShA,gsA,VA,wA,slA,TA,qA,hFA,hTA,hQA,hkA⟩:=slice_next hb (hW 0 (by decide)) hF1 hV1 hQ0 hks
 obtain ⟨gsB,VB,wB,slB,TB,qB,hFB,hTB,hQB⟩:=slice_step (.inl rfl) hFA hTA hQA
 obtain ⟨ShC,gsC,VC,wC,slC,TC,qC,hFC,hTC,hQC,hkC⟩:=slice_next hb (hW 1 (by decide)) hFB hTB hQB hkA
 obtain ⟨gsD,VD,wD,slD,TD,qD,hFD,hTD,hQD⟩:=slice_step (.inr (.inl rfl)) hFC hTC hQC
 obtain ⟨ShE,gsE,VE,wE,slE,TE,qE,hFE,hTE,hQE,hkE⟩:=slice_next hb (hW 2 (by decide)) hFD hTD hQD hkC
 obtain ⟨gsG,VG,wG,slG,TG,qG,hFG,hTG,hQG⟩:=slice_step (.inr (.inr rfl)) hFE hTE hQE
 obtain ⟨ShH,gsH,VH,wH,slH,TH,qH,hFH,hTH,hQH,hkH⟩:=slice_next hb (hW 3 (by decide)) hFG hTG hQG hkE
 obtain ⟨gsI,a',wI,slI,TI,qI,hI,_,hleI,⟨VI,rfl⟩,hrI⟩:=(hFH.lone (Nat.le_refl _)).to (Stop:=fun g w'=>(∃ T',g = G (frRet T') cs) ∧ AtRel wH w') (fun g w h=>by obtain ⟨⟨_,rfl⟩,_⟩:=h;rfl) (fun g w w₁ hr h=>⟨h.1,atRel_tr _ _ _ h.2 hr⟩)
  (slice3b hTH wH (hQH.boxes 1 _ rfl) (hkH ⟨_,0,none⟩ ⟨by show w0.heap.size ≤ w0.heap.size + 1;omega,by show w0.heap.size + 1 < _;omega⟩) (by have:=hQH.size;omega))
 exact ⟨ShH,gsI,VI,wI,slI,TI,qI,hI.frm (fun l hl=>let ⟨a,e,x,y⟩:=hFH.shun l hl;⟨a,e,by omega,y⟩),hQH.at hrI⟩
theorem blocks_calls (hb:¬ Born Tryd.prog m0 36 bB) (hlt:bB < w0.heap.size) (hX:CellsAt bB (X 0) w0) (hW:∀ w,@Rely (coMain Tryd.prog m0 36) w0 w → ∀ s,s < 4 → WorkerOk m0 w aB lB cB m bB ety X s) :
 @CallsJ (coMain Tryd.prog m0 36) Tryd.prog 36 #[.slice aB lB cB,.int .u32 1,.int .u32 8,.int .u32 1,.int .i64 m] w0 fun e w'=>e = .returned (.tuple #[]) ∧ ∃ w₁,@Rely (coMain Tryd.prog m0 36) w0 w₁ ∧ QS w₁ aB lB cB m bB ety X 4 w':=by
 letI:=coMain Tryd.prog m0 36
 intro cs Stop hc
 refine GoesJ.jump (fun w₁ g' w'=>QS w₁ aB lB cB m bB ety X 4 w' ∧ match cs with
  | []=>∃ V,g' = G (frRet V) []
  | c :: cs=>g' = G (c.finish (.tuple #[])) cs) (fun w₁ h₁ hFrm=>?_) fun w₁ g' w' h₁ ⟨hQ,hg⟩=>?_
 ·obtain ⟨Sh,gs,sl,T,q,hF⟩:=hFrm
  have hX₁:CellsAt bB (X 0) w₁:=hX.of (h₁.mine bB hlt hb)
  obtain ⟨Sh',gs',V',w',sl',T',q',hF',hQ⟩:=blocks_run hX₁.lt hX₁ (hW w₁ h₁) hF
  cases cs with
  | nil=>exact ⟨_,w',⟨Sh',gs',sl',T',q',hF'⟩,hQ,V',rfl⟩
  | cons c cs=>
   have hstep:∀ w,stepG Tryd.prog true (G (frRet V') (c :: cs)) w = .go (G (c.finish (.tuple #[])) cs) w #[]:=fun w=>by
    have h0:=stepG_leaveE (P:=Tryd.prog) (main:=true) (fr:=frRet V') (c:=c) (cs:=cs) (w:=w) rfl rfl rfl Tryd.func36 (results_none rfl _ _ _)
    rw [h0,events_results_none rfl]
    rfl
   obtain ⟨gs₂,a₂,w₂,sl₂,T₂,q₂,dd,sl₃,h2,_,_,hst,rfl,hr⟩:=(hF'.lone (Nat.le_refl _)).walk (Stop:=fun g w=>g = G (frRet V') (c :: cs) ∧ AtRel w' w) (fun g w h=>by rw [h.1];rfl) (.stop fun w h=>⟨rfl,h⟩)
   have hsz₂:w₂.heap.size = w'.heap.size:=by obtain ⟨d,e⟩:=hr;have:=congrArg (fun w:World=>w.heap.size) e;exact this
   have hF₂:=h2.frm (F:=36) (fun l hl=>let ⟨a,e,x,y⟩:=hF'.shun l hl;⟨a,e,by omega,y⟩)
   obtain ⟨h3,_⟩:=hF₂.step hst (hstep _) (Nat.le_refl _) (fun e he=>by simp at he)
   exact ⟨_,w₂.at dd,⟨_,_,_,_,_,h3⟩,hQ.at hr,rfl⟩
 ·have hb':=hc (.tuple #[]) w' ⟨rfl,w₁,h₁,hQ⟩
  cases cs with
  | nil=>
   obtain ⟨V,rfl⟩:=hg
   exact hb' _ ⟨rfl,rfl,rfl,rfl,Tryd.f36,Tryd.func36,fun w _=>by simp [results,Tryd.f36]⟩
  | cons c cs=>rw [hg];exact hb'
end
end
section
open Go Go.Eng Conc Conc.Lib RowKit
noncomputable def bot:Frame:={ (default:Frame) with fn:=Tryd.prog.funcs.size,defers:=[],mode:=.panicking [goexitEntry] }
noncomputable def fr46 (n0:Nat) (s:Int) (Wg:Nat):Frame:=(baseD 46).at ⟨#[.int .u32 0,.int .u32 s,.int .u32 0,bp Wg,bp (n0 + 4),bp (n0 + 2),bp (n0 + 1),bp (n0 + 5),bp (n0 + 6),bp n0,bp (n0 + 3)] ++ Array.replicate 142 undef,[]⟩ [.code (Tryd.f46.body.getD .skip)]
theorem born_step (n0:Nat) (s:Int) (Wg:Nat) (w:World):stepG Tryd.prog false (born Tryd.prog (call46 n0 s Wg)) w = .go (G (fr46 n0 s Wg) [bot]) w #[]:=by
 have hb:Tryd.f46.body = some (Tryd.f46.body.getD .skip):=by unfold Tryd.f46;simp only [Option.getD_some]
 have hn:Tryd.f46.ntmps = 153:=by unfold Tryd.f46;rfl
 have hnm:(Tryd.f46.name == "runtime.NumGoroutine") = false:=by unfold Tryd.f46;kernel_rfl
 have he:Frame.enter Tryd.prog 46 #[.int .u32 0,.int .u32 s,.int .u32 0,bp Wg,bp (n0 + 4),bp (n0 + 2),bp (n0 + 1),bp (n0 + 5),bp (n0 + 6),bp n0,bp (n0 + 3)] .deferred = fr46 n0 s Wg:=by
  rw [enter_atD _ Tryd.func46 hb,hn];rfl
 have hnm':¬ Tryd.f46.name = "runtime.NumGoroutine":=by simpa using hnm
 have hbn:¬ Tryd.f46.body = none:=by rw [hb];simp
 simp [born,call46,stepG,unwind,callDeferred,invoke,callFunc,Tryd.func46,hnm',hbn,seen,GStep.after,G,he,bot]
theorem quits46 (T:Array Value) (ops:Array Oper):QuitsD Tryd.prog 4 0 (G ((baseD 46).at ⟨T,[]⟩ [.inRegion ops []]) [bot]):=by
 have hr:Tryd.f46.results = #[]:=by unfold Tryd.f46;rfl
 refine QuitsD.ctl rfl (fun _=>stepG_region_end) (QuitsD.ctl rfl (fun _=>stepG_end) ?_)
 refine QuitsD.ctl (g':=G bot []) rfl (fun w=>?_) ?_
 ·simp [G,stepG,unwind,doReturn,results,hr,Frame.at,baseD,bot,Tryd.func46,seen,GStep.after,goexitEntry]
 refine QuitsD.ctl (g':={ G bot [] with status:=.finished }) rfl (fun w=>?_) ⟨rfl,rfl⟩
 simp [G,stepG,unwind,bot,goexitEntry,Frame.catches]
 rfl
end
end Go.Proofs.YtineimjmnbjdlaaDoor
namespace Go.Eng
section
structure Loc where
 c:Nat
 base:Nat
 room:Nat
abbrev Map:=Nat → Option Loc
def Map.le (β β':Map):Prop:=∀ b L,β b = some L → β' b = some L
theorem Map.le_refl (β:Map):Map.le β β:=fun _ _ h=>h
theorem Map.le_trans {a b c:Map} (h:Map.le a b) (k:Map.le b c):Map.le a c:=fun x L hx=>k x L (h x L hx)
def at' (c o:Nat):Addr:=⟨c,o,none⟩
class RowAddr where
 row:Nat → Nat × Nat
def gAt [RowAddr] (k o:Nat):Addr:=if k % 2 = 0 then at' (k / 2) o else at' (RowAddr.row (k / 2)).1 ((RowAddr.row (k / 2)).2 + o)
def gIx [RowAddr] (k:Nat):Nat:=if k % 2 = 0 then k / 2 else (RowAddr.row (k / 2)).1
theorem gAt_eq [RowAddr] (k:Nat):∃ b,∀ o,gAt k o = at' (gIx k) (b + o):=by
 unfold gAt gIx
 split
 ·exact ⟨0,fun o=>by rw [Nat.zero_add]⟩
 ·exact ⟨_,fun o=>rfl⟩
theorem gAt_var [RowAddr] (g o:Nat):gAt (2 * g) o = at' g o:=by
 unfold gAt
 rw [if_pos (by omega),show 2 * g / 2 = g by omega]
theorem gIx_var [RowAddr] (g:Nat):gIx (2 * g) = g:=by
 unfold gIx
 rw [if_pos (by omega),show 2 * g / 2 = g by omega]
variable [RowAddr] [Co]
inductive VRel (β:Map):AV → Value → Prop
 | undef (v:Value):VRel β (.atom .undef) v
 | bool (b:B):VRel β (.atom (.bool b)) (.bool b.v)
 | str (s:ByteArray):VRel β (.atom (.str s)) (.string s)
 | nilp:VRel β (.atom .nilp) (.pointer none)
 | nils:VRel β (.atom .nils) (.slice none 0 0)
 | nili:VRel β (.atom .nili) .nilIface
 | nilf:VRel β (.atom .nilf) .nilFunc
 | exact (v:Value):VRel β (.atom (.exact v)) v
 | num (n:Num):VRel β (.num n) n.val
 | ptr (b:Nat) (o:N) (L:Loc) (h:β b = some L):VRel β (.ref (.ptr b o)) (.pointer (some (at' L.c (L.base + o.v))))
 | gp (g:Nat) (o:N):VRel β (.ref (.gp g o)) (.pointer (some (gAt g o.v)))
 | gs (g:Nat) (o l:N) (cp:Nat) (h:l.v ≤ cp):VRel β (.ref (.gs g o l)) (.slice (some (gAt g o.v)) l.v cp)
 | sm (b:Nat) (l:N) (s:Nat) (a:Option Addr) (cp:Nat) (h1:l.v ≤ cp) (h3:cp = 0 ∨ ∃ L,β b = some L ∧ a = some (at' L.c L.base) ∧ cp * s ≤ L.room):VRel β (.ref (.sm b l s)) (.slice a l.v cp)
 | sl (b:Nat) (o l:N) (cap:Option N) (a:Option Addr) (cp:Nat) (h1:l.v ≤ cp) (h2:∀ C,cap = some C → C.v = cp)
  (h3:cp = 0 ∨ ∃ L,β b = some L ∧ a = some (at' L.c (L.base + o.v)) ∧ o.v + cp ≤ L.room):VRel β (.ref (.sl b o l cap)) (.slice a l.v cp)
 | agg (xs:List AV) (vs:List Value) (hl:xs.length = vs.length) (h:∀ (i:Nat) x v,xs[i]? = some x → vs[i]? = some v → VRel β x v):VRel β (.agg xs) (.agg ⟨vs⟩)
 | tup (xs:List AV) (vs:List Value) (hl:xs.length = vs.length) (h:∀ (i:Nat) x v,xs[i]? = some x → vs[i]? = some v → VRel β x v):VRel β (.obj .tup xs) (.tuple ⟨vs⟩)
 | ifc (t:Nat) (x:AV) (v:Value) (h:VRel β x v):VRel β (.obj (.ifc t) [x]) (.iface t v)
 | fn (f:Fn) (n:Nat) (xs:List AV) (first captured:List Value) (hn:first.length = n) (hl:xs.length = (first ++ captured).length)
  (h:∀ (i:Nat) x v,xs[i]? = some x → (first ++ captured)[i]? = some v → VRel β x v):VRel β (.obj (.fn f n) xs) (.func f ⟨first⟩ ⟨captured⟩)
def LRel (β:Map) (xs:List AV) (vs:List Value):Prop:=xs.length = vs.length ∧ ∀ (i:Nat) x v,xs[i]? = some x → vs[i]? = some v → VRel β x v
theorem LRel.nil (β:Map):LRel β [] []:=⟨rfl,fun i x v h=>by simp at h⟩
theorem LRel.cons {β:Map} {x:AV} {v:Value} {xs:List AV} {vs:List Value} (h:VRel β x v) (k:LRel β xs vs):LRel β (x :: xs) (v :: vs):=by
 refine ⟨by simp [k.1],fun i y u hy hu=>?_⟩
 cases i with
 | zero=>simp at hy hu;subst hy hu;exact h
 | succ i=>simp at hy hu;exact k.2 i y u hy hu
theorem LRel.head {β:Map} {x:AV} {v:Value} {xs:List AV} {vs:List Value} (h:LRel β (x :: xs) (v :: vs)):VRel β x v:=h.2 0 x v rfl rfl
theorem LRel.tail {β:Map} {x:AV} {v:Value} {xs:List AV} {vs:List Value} (h:LRel β (x :: xs) (v :: vs)):LRel β xs vs:=
 ⟨by simpa using h.1,fun i y u hy hu=>h.2 (i + 1) y u (by simpa using hy) (by simpa using hu)⟩
theorem LRel.cons_inv {β:Map} {x:AV} {xs:List AV} {vs:List Value} (h:LRel β (x :: xs) vs):∃ v vs',vs = v :: vs' ∧ VRel β x v ∧ LRel β xs vs':=by
 cases vs with
 | nil=>simp [LRel] at h
 | cons v vs'=>exact ⟨v,vs',rfl,h.head,h.tail⟩
theorem LRel.nil_inv {β:Map} {vs:List Value} (h:LRel β [] vs):vs = []:=by
 have:=h.1;simp at this;exact List.eq_nil_of_length_eq_zero this.symm
theorem LRel.append {β:Map} {xs ys:List AV} {vs us:List Value} (h:LRel β xs vs) (k:LRel β ys us):LRel β (xs ++ ys) (vs ++ us):=by
 induction xs generalizing vs with
 | nil=>rw [h.nil_inv];exact k
 | cons x xs ih=>
  obtain ⟨v,vs',rfl,h1,h2⟩:=h.cons_inv
  exact LRel.cons h1 (ih h2)
theorem LRel.get {β:Map} {xs:List AV} {vs:List Value} (h:LRel β xs vs) {i:Nat} {x:AV} (hx:xs[i]? = some x):∃ v,vs[i]? = some v ∧ VRel β x v:=by
 have hi:i < xs.length:=by
  rcases Nat.lt_or_ge i xs.length with h | h
  ·exact h
  ·simp [List.getElem?_eq_none h] at hx
 have hi':i < vs.length:=h.1 ▸ hi
 exact ⟨vs[i],by simp [hi'],h.2 i x _ hx (by simp [hi'])⟩
theorem LRel.drop {β:Map} {xs:List AV} {vs:List Value} (h:LRel β xs vs) (n:Nat):LRel β (xs.drop n) (vs.drop n):=
 ⟨by simp [h.1],fun i x v hx hv=>h.2 (n + i) x v (by simpa using hx) (by simpa using hv)⟩
theorem LRel.take {β:Map} {xs:List AV} {vs:List Value} (h:LRel β xs vs) (n:Nat):LRel β (xs.take n) (vs.take n):=by
 refine ⟨by simp [h.1],fun i x v hx hv=>?_⟩
 simp only [List.getElem?_take] at hx hv
 split at hx <;> simp_all
 exact h.2 i x v hx hv
theorem LRel.set {β:Map} {xs:List AV} {vs:List Value} {x:AV} {v:Value} (h:LRel β xs vs) (hx:VRel β x v) (n:Nat):LRel β (xs.set n x) (vs.set n v):=by
 refine ⟨by simp [h.1],fun i y u hy hu=>?_⟩
 simp only [List.getElem?_set] at hy hu
 have:=h.1
 split at hy
 ·rename_i e
  simp only [e,if_true] at hu
  split at hy <;> simp_all
 ·rename_i e
  simp only [e,if_false] at hu
  exact h.2 i y u hy hu
theorem LRel.replicate {β:Map} {xs:List AV} {vs:List Value} (h:LRel β xs vs) (n:Nat):LRel β (List.replicate n xs).flatten (List.replicate n vs).flatten:=by
 induction n with
 | zero=>exact LRel.nil β
 | succ n ih=>simp only [List.replicate_succ,List.flatten_cons];exact h.append ih
theorem VRel.mono {β β':Map} (hβ:Map.le β β') {x:AV} {v:Value} (h:VRel β x v):VRel β' x v:=by
 induction h with
 | undef v=>exact .undef v
 | bool b=>exact .bool b
 | str s=>exact .str s
 | nilp=>exact .nilp
 | nils=>exact .nils
 | nili=>exact .nili
 | nilf=>exact .nilf
 | exact v=>exact .exact v
 | num n=>exact .num n
 | ptr b o L h=>exact .ptr b o L (hβ b L h)
 | gp g o=>exact .gp g o
 | gs g o l cp h=>exact .gs g o l cp h
 | sm b l s a cp h1 h3=>
  refine .sm b l s a cp h1 ?_
  rcases h3 with h | ⟨L,h,h'⟩
  ·exact .inl h
  ·exact .inr ⟨L,hβ b L h,h'⟩
 | sl b o l cap a cp h1 h2 h3=>
  refine .sl b o l cap a cp h1 h2 ?_
  rcases h3 with h | ⟨L,h,h'⟩
  ·exact .inl h
  ·exact .inr ⟨L,hβ b L h,h'⟩
 | agg xs vs hl h ih=>exact .agg xs vs hl ih
 | tup xs vs hl h ih=>exact .tup xs vs hl ih
 | ifc t x v h ih=>exact .ifc t x v ih
 | fn f n xs first captured hn hl h ih=>exact .fn f n xs first captured hn hl ih
theorem LRel.mono {β β':Map} (hβ:Map.le β β') {xs:List AV} {vs:List Value} (h:LRel β xs vs):LRel β' xs vs:=⟨h.1,fun i x v hx hv=>(h.2 i x v hx hv).mono hβ⟩
theorem VRel.of_n {β:Map} {x:AV} {v:Value} (h:NRel x v):VRel β x v:=by cases h <;> first | exact .num _ | exact .bool _
theorem VRel.aggL {β:Map} {xs:List AV} {vs:List Value} (h:LRel β xs vs):VRel β (.agg xs) (.agg ⟨vs⟩):=.agg xs vs h.1 h.2
theorem VRel.tupL {β:Map} {xs:List AV} {vs:List Value} (h:LRel β xs vs):VRel β (.obj .tup xs) (.tuple ⟨vs⟩):=.tup xs vs h.1 h.2
theorem VRel.agg_inv {β:Map} {xs:List AV} {v:Value} (h:VRel β (.agg xs) v):∃ vs,v = .agg ⟨vs⟩ ∧ LRel β xs vs:=by
 cases h with | agg _ vs hl h=>exact ⟨vs,rfl,hl,h⟩
theorem VRel.tup_inv {β:Map} {xs:List AV} {v:Value} (h:VRel β (.obj .tup xs) v):∃ vs,v = .tuple ⟨vs⟩ ∧ LRel β xs vs:=by
 cases h with | tup _ vs hl h=>exact ⟨vs,rfl,hl,h⟩
theorem VRel.num_inv {β:Map} {n:Num} {v:Value} (h:VRel β (.num n) v):v = n.val:=by cases h;rfl
theorem VRel.bool_inv {β:Map} {b:B} {v:Value} (h:VRel β (.atom (.bool b)) v):v = .bool b.v:=by cases h;rfl
theorem VRel.ptr_inv {β:Map} {b:Nat} {o:N} {v:Value} (h:VRel β (.ref (.ptr b o)) v):∃ L,β b = some L ∧ v = .pointer (some (at' L.c (L.base + o.v))):=by
 cases h with | ptr _ _ L h=>exact ⟨L,h,rfl⟩
theorem VRel.gs_inv {β:Map} {g:Nat} {o l:N} {v:Value} (h:VRel β (.ref (.gs g o l)) v):∃ cp,v = .slice (some (gAt g o.v)) l.v cp ∧ l.v ≤ cp:=by cases h;exact ⟨_,rfl,by assumption⟩
theorem VRel.sm_inv {β:Map} {b s:Nat} {l:N} {v:Value} (h:VRel β (.ref (.sm b l s)) v) :
 ∃ a cp,v = .slice a l.v cp ∧ l.v ≤ cp ∧ (cp = 0 ∨ ∃ L,β b = some L ∧ a = some (at' L.c L.base) ∧ cp * s ≤ L.room):=by
 cases h with | sm _ _ _ a cp h1 h3=>exact ⟨a,cp,rfl,h1,h3⟩
theorem VRel.gp_inv {β:Map} {g:Nat} {o:N} {v:Value} (h:VRel β (.ref (.gp g o)) v):v = .pointer (some (gAt g o.v)):=by cases h;rfl
theorem VRel.sl_inv {β:Map} {b:Nat} {o l:N} {cap:Option N} {v:Value} (h:VRel β (.ref (.sl b o l cap)) v) :
 ∃ a cp,v = .slice a l.v cp ∧ l.v ≤ cp ∧ (∀ C,cap = some C → C.v = cp) ∧ (cp = 0 ∨ ∃ L,β b = some L ∧ a = some (at' L.c (L.base + o.v)) ∧ o.v + cp ≤ L.room):=by
 cases h with | sl _ _ _ _ a cp h1 h2 h3=>exact ⟨a,cp,rfl,h1,h2,h3⟩
theorem absV_rel (β:Map):∀ v:Value,VRel β (absV v) v:=by
 intro v
 induction v using Value.rec (motive_2:=fun a=>LRel β (absV.absL a.toList) a.toList) (motive_3:=fun l=>LRel β (absV.absL l) l) with
 | bool b=>exact .bool (.c b)
 | int k n=>exact .num (.int k (.c n))
 | string s=>exact .str s
 | pointer a=>cases a <;> first | exact .nilp | exact .undef _
 | slice a l c=>
  cases a with
  | some a=>exact .undef _
  | none=>
   cases l with
   | succ l=>exact .undef _
   | zero=>
    cases c with
    | succ c=>exact .undef _
    | zero=>exact .nils
 | nilIface=>exact .nili
 | nilFunc=>exact .nilf
 | agg a ih=>cases a;exact VRel.aggL ih
 | tuple a ih=>cases a;exact VRel.tupL ih
 | mk l ih=>exact ih
 | nil=>exact LRel.nil β
 | cons x l ih1 ih2=>exact LRel.cons ih1 ih2
 | _=>exact .undef _
def Data.at (d:Data) (i:Nat):Option AV:=
 match d with
 | .gen l=>l[i]?
 | .b8 l=>(l.l[i]?).map .w8
 | .b32 l=>(l.l[i]?).map .w32
 | .b64 l=>(l.l[i]?).map .w64
 | .spot n K x=>((List.replicate n (.atom .undef)).set K x)[i]?
 | .kn l t=>(l.map AV.exact ++ t)[i]?
def Data.list (d:Data):List AV:=
 match d with
 | .gen l=>l
 | .b8 l=>l.l.map .w8
 | .b32 l=>l.l.map .w32
 | .b64 l=>l.l.map .w64
 | .spot n K x=>(List.replicate n (.atom .undef)).set K x
 | .kn l t=>l.map AV.exact ++ t
theorem Data.list_at (d:Data) (i:Nat):d.list[i]? = d.at i:=by cases d <;> simp [Data.list,Data.at]
theorem Data.list_len (d:Data):d.list.length = d.len:=by cases d <;> simp [Data.list,Data.len,Vec.h]
theorem spot_get {n K:Nat} {x y:AV} {i:Nat} (h:((List.replicate n (AV.atom .undef)).set K x)[i]? = some y):y = .atom .undef ∨ (i = K ∧ y = x):=by
 rw [List.getElem?_set] at h
 split at h
 ·rename_i e
  split at h
  ·injection h with h;exact .inr ⟨e.symm,h.symm⟩
  ·cases h
 ·rw [List.getElem?_replicate] at h
  split at h
  ·injection h with h;exact .inl h.symm
  ·cases h
def Mode.alive (m:Mode):Prop:=m ≠ .dead
def ROk (β:Map) (d:Data) (L:Loc) (w:World):Prop:=
 L.c < w.heap.size ∧ d.len ≤ L.room ∧ ∀ (i:Nat) x,d.at i = some x → ∃ v,w.cell? (at' L.c (L.base + i)) = some v ∧ VRel β x v ∧ May (at' L.c (L.base + i)) false
def FzOk (fz:Nat × Nat) (n:Nat):Prop:=fz = (0,0) ∨ fz = (n,n + 1)
def OOk (β:Map) (d:Data) (L:Loc) (w:World):Prop:=
 L.base = 0 ∧ Co.mine L.c ∧ ∃ (vs:List Value) (t:TypeId) (fz:Nat × Nat),w.heap[L.c]? = some (.cells ⟨vs⟩ t fz) ∧ FzOk fz vs.length ∧ vs.length = L.room ∧ d.len ≤ L.room ∧ LRel β d.list (vs.take d.len)
def BRel (β:Map) (k:Blk) (L:Loc) (w:World):Prop:=
 match k.mode with
 | .dead=>True
 | .ro=>ROk β k.data L w
 | .own=>OOk β k.data L w
structure HRel (G:Nat → Option (List AV)) (β:Map) (H:List Blk) (w:World):Prop where
 blk:∀ (b:Nat) k,H[b]? = some k → k.mode.alive → (∃ L,β b = some L ∧ BRel β k L w) ∨ (k.data.len = 0 ∧ β b = none)
 dis:∀ (b b':Nat) k k' L L',b ≠ b' → H[b]? = some k → H[b']? = some k' → k.mode = .own → k'.mode.alive → β b = some L → β b' = some L' → L.c ≠ L'.c
 dom:∀ b L,β b = some L → b < H.length
 glob:∀ g l,G g = some l → gIx g < w.heap.size ∧ ∀ (i:Nat) x,l[i]? = some x → ∃ v,w.cell? (gAt g i) = some v ∧ VRel (fun _=>none) x v ∧ May (gAt g i) false
 apart:∀ (b:Nat) k L,H[b]? = some k → k.mode = .own → β b = some L → ∀ g l,G g = some l → gIx g ≠ L.c
def Own (β:Map) (H:List Blk) (c:Nat):Prop:=∃ (b:Nat) (k:Blk) (L:Loc),H[b]? = some k ∧ k.mode = .own ∧ β b = some L ∧ L.c = c
def Kp (c:Nat) (w w':World):Prop:=(Co.mine c → w'.heap[c]? = w.heap[c]?) ∧ ∀ o,Co.rd c o → w'.cell? (at' c o) = w.cell? (at' c o)
theorem Kp.of {c:Nat} {w w':World} (h:w'.heap[c]? = w.heap[c]?):Kp c w w':=⟨fun _=>h,fun o _=>by unfold World.cell? at';simp only;rw [h]⟩
theorem Kp.refl (c:Nat) (w:World):Kp c w w:=Kp.of rfl
theorem Kp.trans {c:Nat} {w w' w'':World} (h:Kp c w w') (k:Kp c w' w''):Kp c w w'':=⟨fun hm=>(k.1 hm).trans (h.1 hm),fun o ho=>(k.2 o ho).trans (h.2 o ho)⟩
theorem Rely.kp {w w₁:World} (h:Rely w w₁) {c:Nat} (hc:c < w.heap.size):Kp c w w₁:=⟨h.mine c hc,fun o ho=>h.rd c o hc ho⟩
theorem Kp.cell {c o:Nat} {w w':World} {v:Value} (h:Kp c w w') (hm:May (at' c o) false) (hv:w.cell? (at' c o) = some v):w'.cell? (at' c o) = some v:=by
 rcases hm.2 with hm | ⟨_,hm⟩
 ·have:=h.1 hm
  unfold World.cell? at' at hv ⊢
  simp only at hv ⊢
  rw [this];exact hv
 ·rw [h.2 o hm];exact hv
structure Stp (β:Map) (H:List Blk) (w:World) (β':Map) (H':List Blk) (w':World):Prop where
 le:Map.le β β'
 len:H.length ≤ H'.length
 os:w'.os = w.os
 tape:w'.tape = w.tape
 output:w'.output = w.output
 size:w.heap.size ≤ w'.heap.size
 kept:∀ c,c < w.heap.size → ¬ Own β H c → Kp c w w'
 own:∀ c,c < w.heap.size → Own β' H' c → Own β H c
 old:∀ b,b < H.length → β' b = β b
theorem Stp.refl (β:Map) (H:List Blk) (w:World):Stp β H w β H w:=⟨Map.le_refl β,Nat.le_refl _,rfl,rfl,rfl,Nat.le_refl _,fun c _ _=>Kp.refl c _,fun _ _ h=>h,fun _ _=>rfl⟩
theorem Stp.trans {β β' β'':Map} {H H' H'':List Blk} {w w' w'':World} (h:Stp β H w β' H' w') (k:Stp β' H' w' β'' H'' w''):Stp β H w β'' H'' w'' where
 le:=Map.le_trans h.le k.le
 len:=Nat.le_trans h.len k.len
 os:=k.os.trans h.os
 tape:=k.tape.trans h.tape
 output:=k.output.trans h.output
 size:=Nat.le_trans h.size k.size
 kept c hc hn:=(h.kept c hc hn).trans (k.kept c (Nat.lt_of_lt_of_le hc h.size) (fun ho=>hn (h.own c hc ho)))
 own c hc ho:=h.own c hc (k.own c (Nat.lt_of_lt_of_le hc h.size) ho)
 old b hb:=(k.old b (Nat.lt_of_lt_of_le hb h.len)).trans (h.old b hb)
theorem Stp.drew (β:Map) (H:List Blk) (w:World):Stp β H w β H w.drew:=⟨Map.le_refl β,Nat.le_refl _,rfl,rfl,rfl,Nat.le_refl _,fun _ _ _=>Kp.of rfl,fun _ _ h=>h,fun _ _=>rfl⟩
theorem Rely.stp {w w₁:World} (h:Rely w w₁) (β:Map) (H:List Blk):Stp β H w β H w₁:=⟨Map.le_refl β,Nat.le_refl _,h.os,h.tape,h.output,h.size,fun c hc _=>h.kp hc,fun _ _ h=>h,fun _ _=>rfl⟩
theorem HRel.drew {G:Nat → Option (List AV)} {β:Map} {H:List Blk} {w:World} (h:HRel G β H w):HRel G β H w.drew:=⟨h.blk,h.dis,h.dom,h.glob,h.apart⟩
theorem lget_eq {α:Type}:∀ (n:Nat) (l:List α),lget n l = l[n]?
 | 0,[]=>rfl
 | n + 1,[]=>rfl
 | 0,x :: r=>rfl
 | n + 1,x :: r=>by simp [lget,lget_eq n r]
theorem lset_eq {α:Type} (v:α):∀ (n:Nat) (l:List α),lset v n l = l.set n v
 | 0,[]=>rfl
 | n + 1,[]=>rfl
 | 0,x :: r=>rfl
 | n + 1,x :: r=>by simp [lset,lset_eq v n r]
theorem lput_eq {α:Type} (vs:List α):∀ (n:Nat) (l r:List α),lput vs n l = some r → n + vs.length ≤ l.length ∧ r = over l n vs
 | 0,l,r,h=>by
  simp only [lput] at h
  cases hb:Nat.ble vs.length l.length <;> simp [hb] at h
  have:vs.length ≤ l.length:=by simpa using hb
  exact ⟨by omega,by subst h;simp [over]⟩
 | n + 1,[],r,h=>by simp [lput] at h
 | n + 1,x :: l,r,h=>by
  simp only [lput] at h
  cases hr:lput vs n l with
  | none=>simp [hr] at h
  | some r'=>
   simp [hr] at h
   obtain ⟨h1,h2⟩:=lput_eq vs n l r' hr
   subst h h2
   refine ⟨by simp;omega,?_⟩
   simp [over,Nat.add_right_comm]
theorem lsub_eq {α:Type} (n:Nat):∀ (o:Nat) (l r:List α),lsub n o l = some r → o + n ≤ l.length ∧ r = (l.drop o).take n
 | 0,l,r,h=>by
  simp only [lsub] at h
  cases hb:Nat.ble n l.length <;> simp [hb] at h
  have:n ≤ l.length:=by simpa using hb
  exact ⟨by omega,by subst h;simp⟩
 | o + 1,[],r,h=>by simp [lsub] at h
 | o + 1,x :: l,r,h=>by
  simp only [lsub] at h
  obtain ⟨h1,h2⟩:=lsub_eq n o l r h
  exact ⟨by simp;omega,by simpa using h2⟩
end
section
variable [RowAddr] [Co]
section
variable {β:Map}
theorem mapOpt_rel8 {l:List AV} {xs:List (BitVec 8)} (h:mapOpt AV.bv8 l = some xs) {vs:List Value} (hv:LRel β l vs):LRel β (xs.map .w8) vs:=by
 induction l generalizing xs vs with
 | nil=>simp [mapOpt] at h;subst h;exact hv
 | cons x l ih=>
  simp only [mapOpt] at h
  cases hx:AV.bv8 x with
  | none=>simp [hx] at h
  | some y=>
   cases hr:mapOpt AV.bv8 l with
   | none=>simp [hx,hr] at h
   | some ys=>
    simp [hx,hr] at h;subst h
    obtain ⟨v,vs',rfl,h1,h2⟩:=hv.cons_inv
    cases x <;> simp only [AV.bv8,reduceCtorEq] at hx
    have e:=h1.num_inv
    rw [Num.bv8_spec hx] at e;subst e
    exact LRel.cons (VRel.of_n (.w8 y)) (ih hr h2)
theorem mapOpt_rel32 {l:List AV} {xs:List (BitVec 32)} (h:mapOpt AV.bv32 l = some xs) {vs:List Value} (hv:LRel β l vs):LRel β (xs.map .w32) vs:=by
 induction l generalizing xs vs with
 | nil=>simp [mapOpt] at h;subst h;exact hv
 | cons x l ih=>
  simp only [mapOpt] at h
  cases hx:AV.bv32 x with
  | none=>simp [hx] at h
  | some y=>
   cases hr:mapOpt AV.bv32 l with
   | none=>simp [hx,hr] at h
   | some ys=>
    simp [hx,hr] at h;subst h
    obtain ⟨v,vs',rfl,h1,h2⟩:=hv.cons_inv
    cases x <;> simp only [AV.bv32,reduceCtorEq] at hx
    have e:=h1.num_inv
    rw [Num.bv32_spec hx] at e;subst e
    exact LRel.cons (VRel.of_n (.w32 y)) (ih hr h2)
theorem mapOpt_rel64 {l:List AV} {xs:List (BitVec 64)} (h:mapOpt AV.bv64 l = some xs) {vs:List Value} (hv:LRel β l vs):LRel β (xs.map .w64) vs:=by
 induction l generalizing xs vs with
 | nil=>simp [mapOpt] at h;subst h;exact hv
 | cons x l ih=>
  simp only [mapOpt] at h
  cases hx:AV.bv64 x with
  | none=>simp [hx] at h
  | some y=>
   cases hr:mapOpt AV.bv64 l with
   | none=>simp [hx,hr] at h
   | some ys=>
    simp [hx,hr] at h;subst h
    obtain ⟨v,vs',rfl,h1,h2⟩:=hv.cons_inv
    cases x <;> simp only [AV.bv64,reduceCtorEq] at hx
    have e:=h1.num_inv
    rw [Num.bv64_spec hx] at e;subst e
    exact LRel.cons (VRel.of_n (.w64 y)) (ih hr h2)
theorem mapOpt_len {α γ:Type} {f:α → Option γ} {l:List α} {r:List γ} (h:mapOpt f l = some r):r.length = l.length:=by
 induction l generalizing r with
 | nil=>simp [mapOpt] at h;subst h;rfl
 | cons x l ih=>
  simp only [mapOpt] at h
  cases h1:f x with
  | none=>simp [h1] at h
  | some y=>
   cases h2:mapOpt f l with
   | none=>simp [h1,h2] at h
   | some ys=>simp [h1,h2] at h;subst h;simp [ih h2]
theorem as8_len {d:Data} {l:Vec 8} (h:d.as8 = some l):l.n = d.len:=by
 cases d <;> simp only [Data.as8,Option.map_eq_some_iff,Option.some.injEq,reduceCtorEq] at h
 ·obtain ⟨a,ha,rfl⟩:=h;exact mapOpt_len ha
 ·subst h;rfl
theorem as32_len {d:Data} {l:Vec 32} (h:d.as32 = some l):l.n = d.len:=by
 cases d <;> simp only [Data.as32,Option.map_eq_some_iff,Option.some.injEq,reduceCtorEq] at h
 ·obtain ⟨a,ha,rfl⟩:=h;exact mapOpt_len ha
 ·subst h;rfl
theorem as64_len {d:Data} {l:Vec 64} (h:d.as64 = some l):l.n = d.len:=by
 cases d <;> simp only [Data.as64,Option.map_eq_some_iff,Option.some.injEq,reduceCtorEq] at h
 ·obtain ⟨a,ha,rfl⟩:=h;exact mapOpt_len ha
 ·subst h;rfl
theorem as8_rel {d:Data} {xs:Vec 8} (h:d.as8 = some xs) {vs:List Value} (hv:LRel β d.list vs):LRel β (xs.l.map .w8) vs:=by
 cases d <;> simp only [Data.as8,Option.map_eq_some_iff,Option.some.injEq,reduceCtorEq] at h
 ·obtain ⟨a,ha,rfl⟩:=h;exact mapOpt_rel8 ha hv
 ·subst h;exact hv
theorem as32_rel {d:Data} {xs:Vec 32} (h:d.as32 = some xs) {vs:List Value} (hv:LRel β d.list vs):LRel β (xs.l.map .w32) vs:=by
 cases d <;> simp only [Data.as32,Option.map_eq_some_iff,Option.some.injEq,reduceCtorEq] at h
 ·obtain ⟨a,ha,rfl⟩:=h;exact mapOpt_rel32 ha hv
 ·subst h;exact hv
theorem as64_rel {d:Data} {xs:Vec 64} (h:d.as64 = some xs) {vs:List Value} (hv:LRel β d.list vs):LRel β (xs.l.map .w64) vs:=by
 cases d <;> simp only [Data.as64,Option.map_eq_some_iff,Option.some.injEq,reduceCtorEq] at h
 ·obtain ⟨a,ha,rfl⟩:=h;exact mapOpt_rel64 ha hv
 ·subst h;exact hv
end
theorem words_inv {d d':Data} (h:d.words = some d'):(∃ v,d.as8 = some v ∧ d' = .b8 v) ∨ (∃ v,d.as32 = some v ∧ d' = .b32 v) ∨ (∃ v,d.as64 = some v ∧ d' = .b64 v):=by
 unfold Data.words at h
 split at h
 ·split at h
  ·rename_i v hv;injection h with h;exact .inl ⟨v,hv,h.symm⟩
  ·split at h
   ·rename_i v hv;injection h with h;exact .inr (.inl ⟨v,hv,h.symm⟩)
   ·split at h
    ·rename_i v hv;injection h with h;exact .inr (.inr ⟨v,hv,h.symm⟩)
    ·cases h
 ·cases h
theorem words_len {d d':Data} (h:d.words = some d'):d'.len = d.len:=by
 rcases words_inv h with ⟨v,k,rfl⟩ | ⟨v,k,rfl⟩ | ⟨v,k,rfl⟩
 ·exact as8_len k
 ·exact as32_len k
 ·exact as64_len k
theorem words_rel {d d':Data} (h:d.words = some d') {β:Map} {vs:List Value} (hv:LRel β d.list vs):LRel β d'.list vs:=by
 rcases words_inv h with ⟨v,k,rfl⟩ | ⟨v,k,rfl⟩ | ⟨v,k,rfl⟩
 ·exact as8_rel k hv
 ·exact as32_rel k hv
 ·exact as64_rel k hv
theorem words_get {α γ:Type} {f:α → Option γ} {l:List α} {r:List γ} (h:mapOpt f l = some r) {i:Nat} {y:γ} (hy:r[i]? = some y):∃ x,l[i]? = some x ∧ f x = some y:=by
 induction l generalizing r i with
 | nil=>simp [mapOpt] at h;subst h;simp at hy
 | cons x l ih=>
  simp only [mapOpt] at h
  cases h1:f x with
  | none=>simp [h1] at h
  | some z=>
   cases h2:mapOpt f l with
   | none=>simp [h1,h2] at h
   | some zs=>
    simp [h1,h2] at h;subst h
    cases i with
    | zero=>simp at hy;subst hy;exact ⟨x,rfl,h1⟩
    | succ i=>simpa using ih h2 (by simpa using hy)
theorem words_at {d d':Data} (h:d.words = some d') {i:Nat} {x':AV} (hx:d'.at i = some x'):∃ x,d.at i = some x ∧ ∀ (β:Map) v,VRel β x v → VRel β x' v:=by
 cases d with
 | gen l=>
  rcases words_inv h with ⟨u,k,rfl⟩ | ⟨u,k,rfl⟩ | ⟨u,k,rfl⟩
  ·simp only [Data.as8,Option.map_eq_some_iff] at k
   obtain ⟨r,hr,rfl⟩:=k
   simp only [Data.at,Vec.of,Option.map_eq_some_iff] at hx
   obtain ⟨y,hy,rfl⟩:=hx
   obtain ⟨x,h1,h2⟩:=words_get hr hy
   refine ⟨x,h1,fun β v hv=>?_⟩
   cases x <;> simp only [AV.bv8,reduceCtorEq] at h2
   rw [hv.num_inv,Num.bv8_spec h2];exact .num (.w8 y)
  ·simp only [Data.as32,Option.map_eq_some_iff] at k
   obtain ⟨r,hr,rfl⟩:=k
   simp only [Data.at,Vec.of,Option.map_eq_some_iff] at hx
   obtain ⟨y,hy,rfl⟩:=hx
   obtain ⟨x,h1,h2⟩:=words_get hr hy
   refine ⟨x,h1,fun β v hv=>?_⟩
   cases x <;> simp only [AV.bv32,reduceCtorEq] at h2
   rw [hv.num_inv,Num.bv32_spec h2];exact .num (.w32 y)
  ·simp only [Data.as64,Option.map_eq_some_iff] at k
   obtain ⟨r,hr,rfl⟩:=k
   simp only [Data.at,Vec.of,Option.map_eq_some_iff] at hx
   obtain ⟨y,hy,rfl⟩:=hx
   obtain ⟨x,h1,h2⟩:=words_get hr hy
   refine ⟨x,h1,fun β v hv=>?_⟩
   cases x <;> simp only [AV.bv64,reduceCtorEq] at h2
   rw [hv.num_inv,Num.bv64_spec h2];exact .num (.w64 y)
 | _=>simp [Data.words] at h
theorem skip8_eq:∀ (l:List AV),(skip8 l).1 ++ (skip8 l).2 = l
 | []=>rfl
 | x :: r=>by
  unfold skip8
  cases x.bv8 with
  | some _=>rfl
  | none=>exact congrArg (x :: ·) (skip8_eq r)
theorem take8_eq:∀ (l:List AV),∃ cs,l = cs ++ (take8 l).2 ∧ mapOpt AV.bv8 cs = some (take8 l).1
 | []=>⟨[],rfl,rfl⟩
 | x :: r=>by
  unfold take8
  cases hx:x.bv8 with
  | none=>exact ⟨[],rfl,rfl⟩
  | some w=>
   obtain ⟨cs,h1,h2⟩:=take8_eq r
   refine ⟨x :: cs,congrArg (x :: ·) h1,?_⟩
   simp only [mapOpt,hx,h2]
theorem mid_eq {d:Data} {m:Mid} (h:d.mid = some m):∃ cs,d = .gen (m.pre ++ (cs ++ m.post)) ∧ mapOpt AV.bv8 cs = some m.row.l:=by
 cases d with
 | gen l=>
  simp only [Data.mid,Option.some.injEq] at h
  subst h
  obtain ⟨cs,h1,h2⟩:=take8_eq (skip8 l).2
  refine ⟨cs,?_,h2⟩
  show Data.gen l = Data.gen ((skip8 l).1 ++ (cs ++ (take8 (skip8 l).2).2))
  rw [← h1,skip8_eq]
 | _=>simp [Data.mid] at h
theorem cells8_eq (v:Vec 8):cells8 v v.n = v.l.map .w8:=by
 have hv:=v.h
 refine List.ext_getElem? fun i=>?_
 unfold cells8
 rw [List.getElem?_map,List.getElem?_map]
 rcases Nat.lt_or_ge i v.n with h | h
 ·simp [h,show i < v.l.length by omega]
 ·simp [h,show v.l.length ≤ i by omega]
theorem mid_len {d:Data} {m:Mid} (h:d.mid = some m):d.len = m.pre.length + m.row.n + m.post.length:=by
 obtain ⟨cs,rfl,h2⟩:=mid_eq h
 have h3:=mapOpt_len h2
 have h4:=m.row.h
 simp only [Data.len,List.length_append];omega
theorem mid_rel {d:Data} {m:Mid} (h:d.mid = some m) {β:Map} {vs:List Value} (hv:LRel β d.list vs):LRel β (m.pre ++ (m.row.l.map .w8 ++ m.post)) vs:=by
 obtain ⟨cs,rfl,h2⟩:=mid_eq h
 have h3:=mapOpt_len h2
 have h4:=m.row.h
 have hl:=hv.1
 simp only [Data.list,List.length_append] at hl
 have e:vs = vs.take m.pre.length ++ ((vs.drop m.pre.length).take cs.length ++ (vs.drop m.pre.length).drop cs.length):=by
  rw [List.take_append_drop,List.take_append_drop]
 have k1:=hv.take m.pre.length
 have k2:=(hv.drop m.pre.length).take cs.length
 have k3:=(hv.drop m.pre.length).drop cs.length
 simp only [Data.list] at k1 k2 k3
 rw [List.take_left'  rfl] at k1
 rw [List.drop_left' rfl,List.take_left' rfl] at k2
 rw [List.drop_left' rfl,List.drop_left' rfl] at k3
 rw [e]
 exact k1.append ((mapOpt_rel8 h2 k2).append k3)
theorem mid_at {d:Data} {m:Mid} (h:d.mid = some m) {i:Nat} {y:BitVec 8} (hy:m.row.l[i]? = some y):∃ x,d.at (m.pre.length + i) = some x ∧ ∀ (β:Map) v,VRel β x v → VRel β (.w8 y) v:=by
 obtain ⟨cs,rfl,h2⟩:=mid_eq h
 obtain ⟨x,h3,h4⟩:=words_get h2 hy
 refine ⟨x,?_,fun β v hv=>?_⟩
 ·show (m.pre ++ (cs ++ m.post))[m.pre.length + i]? = _
  rw [List.getElem?_append_right (by omega),Nat.add_sub_cancel_left,List.getElem?_append_left (by
   rcases Nat.lt_or_ge i cs.length with h | h
   ·exact h
   ·rw [List.getElem?_eq_none h] at h3;cases h3)]
  exact h3
 ·cases x <;> simp only [AV.bv8,reduceCtorEq] at h4
  rw [hv.num_inv,Num.bv8_spec h4];exact .num (.w8 y)
theorem put_list {m:Mid} {v:Vec 8} (hv:v.n = m.row.n):(m.put v).list = m.pre ++ (v.l.map .w8 ++ m.post):=by
 show m.pre ++ (cells8 v m.row.n ++ m.post) = _
 rw [← hv,cells8_eq]
theorem put_len {d:Data} {m:Mid} (h:d.mid = some m) {v:Vec 8} (hv:v.n = m.row.n):(m.put v).len = d.len:=by
 rw [mid_len h,← Data.list_len,put_list hv]
 have:=v.h
 simp only [List.length_append,List.length_map];omega
theorem cells0_spec {d:Data} {n:Nat} {o:N} {S S':St} {l:List AV} (h:d.cells0 n o S = some (l,S')):Pure S S' ∧ (S'.ok → o.v + n ≤ d.len ∧ l.length = n ∧ ∀ (j:Nat) x,j < n → l[j]? = some x → d.at (o.v + j) = some x):=by
 cases d with
 | gen d=>
  cases o with
  | s _=>simp [Data.cells0] at h
  | c o=>
   simp only [Data.cells0,Option.map_eq_some_iff,Prod.mk.injEq] at h
   obtain ⟨l',h,rfl,rfl⟩:=h
   obtain ⟨h1,rfl⟩:=lsub_eq _ _ _ _ h
   refine ⟨Pure.refl _,fun _=>⟨h1,by simp;omega,fun j x hj hx=>?_⟩⟩
   simp only [List.getElem?_take,hj,if_true,List.getElem?_drop] at hx
   exact hx
 | b8 v=>
  simp only [Data.cells0,Option.some.injEq,Prod.mk.injEq] at h
  obtain ⟨rfl,rfl⟩:=h
  refine ⟨demand_pure _ _,fun o'=>?_⟩
  have hd:=of_decide_eq_true (demand_ok o')
  have hv:=v.h
  refine ⟨hd,by simp,fun j x hj hx=>?_⟩
  simp [hj] at hx
  simp [Data.at,show o.v + j < v.l.length by omega] at hx ⊢
  exact hx
 | b32 v=>
  simp only [Data.cells0,Option.some.injEq,Prod.mk.injEq] at h
  obtain ⟨rfl,rfl⟩:=h
  refine ⟨demand_pure _ _,fun o'=>?_⟩
  have hd:=of_decide_eq_true (demand_ok o')
  have hv:=v.h
  refine ⟨hd,by simp,fun j x hj hx=>?_⟩
  simp [hj] at hx
  simp [Data.at,show o.v + j < v.l.length by omega] at hx ⊢
  exact hx
 | b64 v=>
  simp only [Data.cells0,Option.some.injEq,Prod.mk.injEq] at h
  obtain ⟨rfl,rfl⟩:=h
  refine ⟨demand_pure _ _,fun o'=>?_⟩
  have hd:=of_decide_eq_true (demand_ok o')
  have hv:=v.h
  refine ⟨hd,by simp,fun j x hj hx=>?_⟩
  simp [hj] at hx
  simp [Data.at,show o.v + j < v.l.length by omega] at hx ⊢
  exact hx
 | spot _ _ _=>simp [Data.cells0] at h
 | kn _ _=>simp [Data.cells0] at h
theorem cells_spec {d:Data} {n:Nat} {o:N} {S S':St} {l:List AV} (h:d.cells n o S = some (l,S')):Pure S S' ∧ (S'.ok → o.v + n ≤ d.len ∧ l.length = n ∧ ∀ (j:Nat) x,j < n → l[j]? = some x → ∃ y,d.at (o.v + j) = some y ∧ ∀ (β:Map) v,VRel β y v → VRel β x v):=by
 unfold Data.cells at h
 split at h
 ·rename_i r hr
  injection h with h;subst h
  obtain ⟨h1,h2⟩:=cells0_spec hr
  refine ⟨h1,fun ok=>?_⟩
  obtain ⟨g1,g2,g3⟩:=h2 ok
  exact ⟨g1,g2,fun j x hj hx=>⟨x,g3 j x hj hx,fun _ _ h=>h⟩⟩
 ·split at h
  ·rename_i d' hd
   obtain ⟨h1,h2⟩:=cells0_spec h
   refine ⟨h1,fun ok=>?_⟩
   obtain ⟨g1,g2,g3⟩:=h2 ok
   exact ⟨by rw [← words_len hd];exact g1,g2,fun j x hj hx=>words_at hd (g3 j x hj hx)⟩
  ·cases h
end
section
variable [RowAddr] [Co]
section
variable {P:Program} {G:Nat → Option (List AV)} {β:Map} {H:List Blk} {w:World}
theorem cell_own {c o:Nat} {vs:List Value} {t:TypeId} {fr:Nat × Nat} (h:w.heap[c]? = some (.cells ⟨vs⟩ t fr)):w.cell? (at' c o) = vs[o]?:=by
 simp [World.cell?,at',h]
theorem BRel.cell {k:Blk} {L:Loc} (hb:BRel β k L w) (ha:k.mode.alive) {i:Nat} {x:AV} (hx:k.data.at i = some x) :
 ∃ v,w.cell? (at' L.c (L.base + i)) = some v ∧ VRel β x v ∧ May (at' L.c (L.base + i)) false:=by
 obtain ⟨d,m⟩:=k
 cases m with
 | dead=>exact absurd rfl ha
 | ro=>exact hb.2.2 i x hx
 | own=>
  obtain ⟨h0,hmi,vs,t,fz,hh,hfz,hl,hd,hr⟩:=hb
  simp only at hx hd hr
  rw [← Data.list_at] at hx
  obtain ⟨v,hv,hv'⟩:=hr.get hx
  refine ⟨v,?_,hv',rfl,.inl hmi⟩
  rw [h0,Nat.zero_add,cell_own hh]
  rw [List.getElem?_take] at hv
  split at hv <;> simp_all
theorem St.read_spec {S:St} {b:Nat} {d:Data} (h:S.read b = some d):∃ m:Mode,S.H[b]? = some ⟨d,m⟩ ∧ m.alive:=by
 unfold St.read at h
 rw [lget_eq] at h
 cases hb:S.H[b]? with
 | none=>simp [hb] at h
 | some k=>
  obtain ⟨d',m⟩:=k
  rw [hb] at h
  cases m <;> simp at h <;> subst h <;> exact ⟨_,rfl,by intro h;cases h⟩
theorem Data.get0_spec {d:Data} {o:N} {S S':St} {x:AV} (h:d.get0 o S = some (x,S')):Pure S S' ∧ (S'.ok → d.at o.v = some x):=by
 cases d with
 | gen l=>
  cases o <;> simp [Data.get0] at h
  obtain ⟨a,ha,rfl,rfl⟩:=h
  rw [lget_eq] at ha
  exact ⟨Pure.refl _,fun _=>ha⟩
 | b8 l=>
  simp only [Data.get0,Option.some.injEq,Prod.mk.injEq] at h
  obtain ⟨rfl,rfl⟩:=h
  refine ⟨demand_pure _ _,fun o'=>?_⟩
  have hd:=of_decide_eq_true (demand_ok o')
  have hl:=l.h
  simp [Data.at,show o.v < l.l.length by omega]
 | b32 l=>
  simp only [Data.get0,Option.some.injEq,Prod.mk.injEq] at h
  obtain ⟨rfl,rfl⟩:=h
  refine ⟨demand_pure _ _,fun o'=>?_⟩
  have hd:=of_decide_eq_true (demand_ok o')
  have hl:=l.h
  simp [Data.at,show o.v < l.l.length by omega]
 | b64 l=>
  simp only [Data.get0,Option.some.injEq,Prod.mk.injEq] at h
  obtain ⟨rfl,rfl⟩:=h
  refine ⟨demand_pure _ _,fun o'=>?_⟩
  have hd:=of_decide_eq_true (demand_ok o')
  have hl:=l.h
  simp [Data.at,show o.v < l.l.length by omega]
 | kn _ _=>simp [Data.get0] at h
 | spot n K y=>
  simp only [Data.get0,Option.some.injEq,Prod.mk.injEq] at h
  obtain ⟨rfl,rfl⟩:=h
  refine ⟨demand_pure _ _,fun o'=>?_⟩
  obtain ⟨h1,h2⟩:=of_decide_eq_true (demand_ok o')
  rw [h1]
  simp [Data.at,h2]
theorem Data.get1_spec {d:Data} {o:N} {S S':St} {x:AV} (h:d.get1 o S = some (x,S')):Pure S S' ∧ (S'.ok → ∃ y,d.at o.v = some y ∧ ∀ (β:Map) v,VRel β y v → VRel β x v):=by
 unfold Data.get1 at h
 split at h
 ·rename_i m hm
  simp only [Option.some.injEq,Prod.mk.injEq] at h
  obtain ⟨rfl,rfl⟩:=h
  refine ⟨demand_pure _ _,fun o'=>?_⟩
  have hd:=of_decide_eq_true (demand_ok o')
  have hr:=m.row.h
  obtain ⟨y,h1,h2⟩:=mid_at hm (i:=o.v - m.pre.length) (y:=m.row.l.getD (o.v - m.pre.length) 0#8) (by simp [show o.v - m.pre.length < m.row.l.length by omega])
  exact ⟨y,by rw [show o.v = m.pre.length + (o.v - m.pre.length) by omega];exact h1,h2⟩
 ·cases h
theorem Data.get_spec {d:Data} {o:N} {S S':St} {x:AV} (h:d.get o S = some (x,S')):Pure S S' ∧ (S'.ok → ∃ y,d.at o.v = some y ∧ ∀ (β:Map) v,VRel β y v → VRel β x v):=by
 unfold Data.get at h
 split at h
 ·rename_i r hr
  injection h with h;subst h
  obtain ⟨h1,h2⟩:=Data.get0_spec hr
  exact ⟨h1,fun ok=>⟨x,h2 ok,fun _ _ h=>h⟩⟩
 ·split at h
  ·rename_i d' hd
   obtain ⟨h1,h2⟩:=Data.get0_spec h
   exact ⟨h1,fun ok=>words_at hd (h2 ok)⟩
  ·exact Data.get1_spec h
theorem readCell_spec {a x:AV} {va:Value} {S S':St} (hH:HRel G β S.H w) (ha:VRel β a va) (h:readCell G a S = some (x,S')) :
 Pure S S' ∧ (S'.ok → ∃ p v,va = .pointer (some p) ∧ w.cell? p = some v ∧ VRel β x v ∧ May p false):=by
 unfold readCell at h
 split at h
 ·rename_i b o
  obtain ⟨L,hL,rfl⟩:=ha.ptr_inv
  cases hr:S.read b with
  | none=>simp [hr] at h
  | some d=>
   simp only [hr] at h
   obtain ⟨hp,hx⟩:=Data.get_spec h
   refine ⟨hp,fun ok=>?_⟩
   obtain ⟨y,hx,hxy⟩:=hx ok
   obtain ⟨m,hb,hm⟩:=St.read_spec hr
   rcases hH.blk b _ hb hm with ⟨L',hL',hbr⟩ | ⟨_,hn⟩
   ·rw [hL] at hL';injection hL' with e;subst e
    obtain ⟨v,hv,hv',hmay⟩:=hbr.cell hm hx
    exact ⟨_,v,rfl,hv,hxy _ _ hv',hmay⟩
   ·rw [hL] at hn;cases hn
 ·rename_i g o
  rw [ha.gp_inv]
  cases hg:G g with
  | none=>simp [hg] at h
  | some l=>
   simp only [hg] at h
   obtain ⟨hp,hx⟩:=Data.get_spec h
   refine ⟨hp,fun ok=>?_⟩
   obtain ⟨y,hx,hxy⟩:=hx ok
   obtain ⟨v,hv,hv',hmay⟩:=(hH.glob g l hg).2 _ y hx
   exact ⟨_,v,rfl,hv,(hxy _ _ hv').mono (fun _ _ h=>by cases h),hmay⟩
 ·cases h
theorem add_at (c o n:Nat):(at' c o).add n = at' c (o + n):=by
 unfold Addr.add at';split <;> simp_all
theorem gAt_add (k o n:Nat):(gAt k o).add n = gAt k (o + n):=by
 obtain ⟨b,hb⟩:=gAt_eq k
 rw [hb,hb,add_at,Nat.add_assoc]
theorem readCells_spec {a:AV} {va:Value} {S S':St} {n:Nat} {l:List AV} (hH:HRel G β S.H w) (ha:VRel β a va) (h:readCells G a n S = some (l,S')) :
 Pure S S' ∧ (S'.ok → ∃ p vs,va = .pointer (some p) ∧ LRel β l vs ∧ l.length = n ∧ (∀ (j:Nat) v,vs[j]? = some v → w.cell? (p.add j) = some v) ∧ ∀ j,j < n → May (p.add j) false):=by
 have key:∀ (f:Nat → Option AV) (p:Addr) (l:List AV),l.length = n → (∀ j,j < n → ∃ v,w.cell? (p.add j) = some v ∧ ∀ x,l[j]? = some x → VRel β x v) →
  ∃ vs,LRel β l vs ∧ ∀ (j:Nat) v,vs[j]? = some v → w.cell? (p.add j) = some v:=by
  intro f p l hl hj
  refine ⟨(List.range n).map fun j=>(w.cell? (p.add j)).getD undef,⟨by simp [hl],?_⟩,?_⟩
  ·intro j x v hx hv
   rcases Nat.lt_or_ge j n with hjn | hjn
   ·obtain ⟨u,hu,hxu⟩:=hj j hjn
    simp [hjn,hu] at hv
    subst hv
    exact hxu x hx
   ·rw [List.getElem?_eq_none (by omega)] at hx;cases hx
  ·intro j v hv
   rcases Nat.lt_or_ge j n with hjn | hjn
   ·obtain ⟨u,hu,_⟩:=hj j hjn
    simp [hjn,hu] at hv
    rw [hu,hv]
   ·simp [show ¬ j < n by omega] at hv
 unfold readCells at h
 split at h
 ·rename_i b o
  obtain ⟨L,hL,rfl⟩:=ha.ptr_inv
  cases hr:S.read b with
  | none=>simp [hr] at h
  | some d=>
   simp only [hr] at h
   obtain ⟨hp,hcs⟩:=cells_spec h
   refine ⟨hp,fun ok=>?_⟩
   obtain ⟨h1,hlen,hat⟩:=hcs ok
   obtain ⟨m,hb,hm⟩:=St.read_spec hr
   have hk0:∀ j,j < n → ∃ v,(w.cell? ((at' L.c (L.base + o.v)).add j) = some v ∧ ∀ x,l[j]? = some x → VRel β x v) ∧ May ((at' L.c (L.base + o.v)).add j) false:=by
    intro j hj
    rcases hH.blk b _ hb hm with ⟨L',hL',hbr⟩ | ⟨hz,hn⟩
    ·rw [hL] at hL';injection hL' with e;subst e
     have hlj:l[j]? = some l[j]:=List.getElem?_eq_getElem (by omega)
     obtain ⟨y,hy,hyx⟩:=hat j _ hj hlj
     obtain ⟨v,hv,hv',hmay⟩:=hbr.cell hm hy
     refine ⟨v,⟨by rw [add_at,Nat.add_assoc];exact hv,fun x hx'=>?_⟩,by rw [add_at,Nat.add_assoc];exact hmay⟩
     rw [hlj] at hx';injection hx' with hx';subst hx';exact hyx _ _ hv'
    ·rw [hL] at hn;cases hn
   have hk:∀ j,j < n → ∃ v,w.cell? ((at' L.c (L.base + o.v)).add j) = some v ∧ ∀ x,l[j]? = some x → VRel β x v:=fun j hj=>let ⟨v,h,_⟩:=hk0 j hj;⟨v,h⟩
   obtain ⟨vs,h3,h4⟩:=key (fun _=>none) (at' L.c (L.base + o.v)) _ hlen hk
   exact ⟨_,vs,rfl,h3,hlen,h4,fun j hj=>let ⟨_,_,h⟩:=hk0 j hj;h⟩
 ·rename_i g o
  rw [ha.gp_inv]
  cases o with
  | s _=>simp at h
  | c o=>
   simp only at h
   cases n with
   | zero=>
    simp only [Option.some.injEq,Prod.mk.injEq] at h
    obtain ⟨rfl,rfl⟩:=h
    exact ⟨Pure.refl _,fun _=>⟨_,[],rfl,LRel.nil β,rfl,fun j v hv=>by simp at hv,fun j hj=>absurd hj (Nat.not_lt_zero _)⟩⟩
   | succ n=>
    simp only at h
    cases hg:G g with
    | none=>simp [hg] at h
    | some d=>
     simp only [hg,Option.map_eq_some_iff,Prod.mk.injEq] at h
     obtain ⟨l',h,rfl,rfl⟩:=h
     obtain ⟨h1,rfl⟩:=lsub_eq _ _ _ _ h
     have hlen:((d.drop o).take (n + 1)).length = n + 1:=by simp;omega
     have hk0:∀ j,j < n + 1 → ∃ v,(w.cell? ((gAt g o).add j) = some v ∧ ∀ x,((d.drop o).take (n + 1))[j]? = some x → VRel β x v) ∧ May ((gAt g o).add j) false:=by
      intro j hj
      obtain ⟨v,hv,hv',hmay⟩:=(hH.glob g d hg).2 (o + j) d[o + j] (by simp [show o + j < d.length by omega])
      refine ⟨v,⟨by rw [gAt_add];exact hv,fun x hx'=>?_⟩,by rw [gAt_add];exact hmay⟩
      have:x = d[o + j]:=by
       simp [hj,show o + j < d.length by omega] at hx'
       exact hx'.symm
      rw [this];exact hv'.mono (fun _ _ h=>by cases h)
     have hk:∀ j,j < n + 1 → ∃ v,w.cell? ((gAt g o).add j) = some v ∧ ∀ x,((d.drop o).take (n + 1))[j]? = some x → VRel β x v:=fun j hj=>let ⟨v,h,_⟩:=hk0 j hj;⟨v,h⟩
     obtain ⟨vs,h3,h4⟩:=key (fun _=>none) (gAt g o) _ hlen hk
     exact ⟨Pure.refl _,fun _=>⟨_,vs,rfl,h3,hlen,h4,fun j hj=>let ⟨_,_,h⟩:=hk0 j hj;h⟩⟩
 ·cases h
def Map.put (β:Map) (b:Nat) (L:Loc):Map:=fun x=>if x = b then some L else β x
theorem Map.put_le {β:Map} {b:Nat} {L:Loc} (h:β b = none):Map.le β (β.put b L):=by
 intro x L' hx
 unfold Map.put
 split
 ·rename_i e;subst e;rw [h] at hx;cases hx
 ·exact hx
theorem Map.put_same (β:Map) (b:Nat) (L:Loc):β.put b L b = some L:=by simp [Map.put]
theorem Map.put_ne {β:Map} {b x:Nat} {L:Loc} (h:x ≠ b):β.put b L x = β x:=by simp [Map.put,h]
theorem HRel.none_at (h:HRel G β H w):β H.length = none:=by
 cases hb:β H.length with
 | none=>rfl
 | some L=>exact absurd (h.dom _ L hb) (by omega)
theorem ROk.mono {β':Map} {d:Data} {L:Loc} {w':World} (hβ:Map.le β β') (h:ROk β d L w) (hs:w.heap.size ≤ w'.heap.size) (hk:Kp L.c w w'):ROk β' d L w':=
 ⟨Nat.lt_of_lt_of_le h.1 hs,h.2.1,fun i x hx=>by
  obtain ⟨v,hv,hv',hm⟩:=h.2.2 i x hx
  exact ⟨v,hk.cell hm hv,hv'.mono hβ,hm⟩⟩
theorem OOk.mono {β':Map} {d:Data} {L:Loc} {w':World} (hβ:Map.le β β') (h:OOk β d L w) (hk:Kp L.c w w'):OOk β' d L w':=by
 obtain ⟨h0,hmi,vs,t,fz,hh,hf,hl,hd,hr⟩:=h
 exact ⟨h0,hmi,vs,t,fz,by rw [hk.1 hmi];exact hh,hf,hl,hd,hr.mono hβ⟩
theorem BRel.mono {β':Map} {k:Blk} {L:Loc} {w':World} (hβ:Map.le β β') (h:BRel β k L w) (hs:w.heap.size ≤ w'.heap.size) (hk:Kp L.c w w'):BRel β' k L w':=by
 obtain ⟨d,m⟩:=k
 cases m
 ·exact ROk.mono hβ h hs hk
 ·exact OOk.mono hβ h hk
 ·trivial
theorem BRel.lt {k:Blk} {L:Loc} (h:BRel β k L w) (ha:k.mode.alive):L.c < w.heap.size:=by
 obtain ⟨d,m⟩:=k
 cases m
 ·exact h.1
 ·obtain ⟨_,_,vs,t,fz,hh,_⟩:=h
  exact (Array.getElem?_eq_some_iff.1 hh).1
 ·exact absurd rfl ha
theorem BRel.room {k:Blk} {L:Loc} (h:BRel β k L w) (ha:k.mode.alive):k.data.len ≤ L.room:=by
 obtain ⟨d,m⟩:=k
 cases m
 ·exact h.2.1
 ·obtain ⟨_,_,vs,t,fz,hh,_,_,hd,_⟩:=h
  exact hd
 ·exact absurd rfl ha
theorem HRel.room (h:HRel G β H w) {b:Nat} {k:Blk} {L:Loc} (hb:H[b]? = some k) (ha:k.mode.alive) (hL:β b = some L):k.data.len ≤ L.room:=by
 rcases h.blk b k hb ha with ⟨L',hL',hbr⟩ | ⟨_,hn⟩
 ·rw [hL] at hL';injection hL' with e;subst e;exact hbr.room ha
 ·rw [hL] at hn;cases hn
theorem HRel.lt (h:HRel G β H w) {b:Nat} {k:Blk} {L:Loc} (hb:H[b]? = some k) (ha:k.mode.alive) (hL:β b = some L):L.c < w.heap.size:=by
 rcases h.blk b k hb ha with ⟨L',hL',hbr⟩ | ⟨_,hn⟩
 ·rw [hL] at hL';injection hL' with e;subst e;exact hbr.lt ha
 ·rw [hL] at hn;cases hn
theorem own_alive {k:Blk} (h:k.mode = .own):k.mode.alive:=by rw [h];intro h;cases h
theorem HRel.new (hH:HRel G β H w) (d:Data) (vs:List Value) (t:TypeId) (hd:d.len ≤ vs.length) (hr:LRel β d.list (vs.take d.len)) (hmi:Co.mine w.heap.size) :
 HRel G (β.put H.length ⟨w.heap.size,0,vs.length⟩) (H ++ [⟨d,.own⟩]) (w.alloc (.cells ⟨vs⟩ t)) ∧
 Stp β H w (β.put H.length ⟨w.heap.size,0,vs.length⟩) (H ++ [⟨d,.own⟩]) (w.alloc (.cells ⟨vs⟩ t)):=by
 have hle:=Map.put_le (L:=⟨w.heap.size,0,vs.length⟩) hH.none_at
 have hold:∀ c,c < w.heap.size → (w.alloc (.cells ⟨vs⟩ t)).heap[c]? = w.heap[c]?:=fun c hc=>RowKit.Below.heap_alloc w _ c hc
 have hnew:(w.alloc (.cells ⟨vs⟩ t)).heap[w.heap.size]? = some (.cells ⟨vs⟩ t (0,0)):=by
  show (w.heap.push _)[w.heap.size]? = _
  simp
 have hsz:(w.alloc (.cells ⟨vs⟩ t)).heap.size = w.heap.size + 1:=by
  show (w.heap.push _).size = _
  simp
 have hb:∀ (b:Nat) k,(H ++ [⟨d,.own⟩])[b]? = some k → (b < H.length ∧ H[b]? = some k) ∨ (b = H.length ∧ k = ⟨d,.own⟩):=by
  intro b k hk
  rcases Nat.lt_trichotomy b H.length with h | h | h
  ·rw [List.getElem?_append_left h] at hk;exact .inl ⟨h,hk⟩
  ·subst h;simp at hk;exact .inr ⟨rfl,hk.symm⟩
  ·rw [List.getElem?_append_right (by omega)] at hk
   rw [List.getElem?_eq_none (by simp;omega)] at hk;cases hk
 refine ⟨⟨?_,?_,?_,?_,?_⟩,⟨hle,by simp,rfl,rfl,rfl,by omega,fun c hc _=>Kp.of (hold c hc),?_,fun b hb=>Map.put_ne (by omega)⟩⟩
 ·intro b k hk ha
  rcases hb b k hk with ⟨h,hk⟩ | ⟨rfl,rfl⟩
  ·rcases hH.blk b k hk ha with ⟨L,hL,hbr⟩ | ⟨h2,h3⟩
   ·exact .inl ⟨L,hle b L hL,hbr.mono hle (by omega) (Kp.of (hold _ (hbr.lt ha)))⟩
   ·exact .inr ⟨h2,by rw [Map.put_ne (by omega)];exact h3⟩
  ·exact .inl ⟨_,Map.put_same ..,rfl,hmi,vs,t,(0,0),hnew,.inl rfl,rfl,hd,hr.mono hle⟩
 ·intro b b' k k' L L' hne hk hk' ho ha hL hL'
  rcases hb b k hk with ⟨h,hk⟩ | ⟨rfl,rfl⟩
  ·rw [Map.put_ne (by omega)] at hL
   rcases hb b' k' hk' with ⟨h',hk'⟩ | ⟨rfl,rfl⟩
   ·rw [Map.put_ne (by omega)] at hL'
    exact hH.dis b b' k k' L L' hne hk hk' ho ha hL hL'
   ·rw [Map.put_same] at hL';injection hL' with e;subst e
    have:=hH.lt hk (own_alive ho) hL
    simp only;omega
  ·rw [Map.put_same] at hL;injection hL with e;subst e
   rcases hb b' k' hk' with ⟨h',hk'⟩ | ⟨rfl,rfl⟩
   ·rw [Map.put_ne (by omega)] at hL'
    have:=hH.lt hk' ha hL'
    simp only;omega
   ·exact absurd rfl hne
 ·intro b L hL
  simp only [List.length_append,List.length_cons,List.length_nil]
  by_cases e:b = H.length
  ·omega
  ·rw [Map.put_ne e] at hL;have:=hH.dom b L hL;omega
 ·intro g l hg
  obtain ⟨h1,h2⟩:=hH.glob g l hg
  refine ⟨by omega,fun i x hx=>?_⟩
  obtain ⟨v,hv,hv',hmay⟩:=h2 i x hx
  obtain ⟨b0,hb0⟩:=gAt_eq g
  exact ⟨v,by rw [hb0] at hv ⊢;rw [World.cell?_of_block (w:=w) (a:=at' (gIx g) (b0 + i)) (hold _ h1)];exact hv,hv',hmay⟩
 ·intro b k L hk ho hL
  rcases hb b k hk with ⟨h,hk⟩ | ⟨rfl,rfl⟩
  ·rw [Map.put_ne (by omega)] at hL;exact hH.apart b k L hk ho hL
  ·rw [Map.put_same] at hL;injection hL with e;subst e
   intro g l hg
   have:=(hH.glob _ l hg).1
   simp only;omega
 ·intro c hc ⟨b,k,L,hk,ho,hL,hLc⟩
  rcases hb b k hk with ⟨h,hk⟩ | ⟨rfl,rfl⟩
  ·rw [Map.put_ne (by omega)] at hL;exact ⟨b,k,L,hk,ho,hL,hLc⟩
  ·rw [Map.put_same] at hL;injection hL with e;subst e;simp only at hLc;omega
theorem HRel.write (hH:HRel G β H w) {b:Nat} {d d':Data} {L:Loc} (hb:H[b]? = some ⟨d,.own⟩) (hL:β b = some L) (vs':List Value)
 (hl:vs'.length = L.room) (hd:d'.len ≤ L.room) (hr:LRel β d'.list (vs'.take d'.len)) :
 HRel G β (H.set b ⟨d',.own⟩) (w.setRow L.c ⟨vs'⟩) ∧ Stp β H w β (H.set b ⟨d',.own⟩) (w.setRow L.c ⟨vs'⟩):=by
 have hblt:b < H.length:=by
  rcases Nat.lt_or_ge b H.length with h | h
  ·exact h
  ·simp [List.getElem?_eq_none h] at hb
 have hob:OOk β d L w:=by
  rcases hH.blk b _ hb (own_alive rfl) with ⟨L',hL',hbr⟩ | ⟨_,hn⟩
  ·rw [hL] at hL';injection hL' with e;subst e;exact hbr
  ·rw [hL] at hn;cases hn
 obtain ⟨h0,hmi,vs,t,fz,hh,hfz,hvl,hdl,hrr⟩:=hob
 have hget:∀ (x:Nat) k,(H.set b ⟨d',.own⟩)[x]? = some k → (x = b ∧ k = ⟨d',.own⟩) ∨ (x ≠ b ∧ H[x]? = some k):=by
  intro x k hk
  by_cases e:x = b
  ·subst e;rw [List.getElem?_set_self hblt] at hk;injection hk with hk;exact .inl ⟨rfl,hk.symm⟩
  ·rw [List.getElem?_set_ne (Ne.symm e)] at hk;exact .inr ⟨e,hk⟩
 have hnew:=setRow_heap w L.c ⟨vs⟩ ⟨vs'⟩ t fz hh
 have hother:∀ c,c ≠ L.c → (w.setRow L.c ⟨vs'⟩).heap[c]? = w.heap[c]?:=fun c hc=>setRow_other w L.c c _ hc
 refine ⟨⟨?_,?_,?_,?_,?_⟩,⟨Map.le_refl β,by simp,rfl,rfl,rfl,by simp,?_,?_,fun _ _=>rfl⟩⟩
 ·intro x k hk ha
  rcases hget x k hk with ⟨rfl,rfl⟩ | ⟨hx,hk⟩
  ·exact .inl ⟨L,hL,h0,hmi,vs',t,fz,hnew,by rw [hl,← hvl];exact hfz,hl,hd,hr⟩
  ·rcases hH.blk x k hk ha with ⟨L',hL',hbr⟩ | h
   ·refine .inl ⟨L',hL',hbr.mono (Map.le_refl β) (by simp) (Kp.of (hother _ ?_))⟩
    exact (hH.dis b x _ k L L' (Ne.symm hx) hb hk rfl ha hL hL').symm
   ·exact .inr h
 ·intro x y k k' L1 L2 hne hk hk' ho ha hL1 hL2
  rcases hget x k hk with ⟨rfl,rfl⟩ | ⟨hx,hk⟩
  ·rcases hget y k' hk' with ⟨rfl,rfl⟩ | ⟨hy,hk'⟩
   ·exact absurd rfl hne
   ·exact hH.dis x y _ k' L1 L2 hne hb hk' rfl ha hL1 hL2
  ·rcases hget y k' hk' with ⟨e,rfl⟩ | ⟨hy,hk'⟩
   ·subst e;exact hH.dis x _ k _ L1 L2 hne (by assumption) hb ho (own_alive rfl) hL1 hL2
   ·exact hH.dis x y k k' L1 L2 hne (by assumption) hk' ho ha hL1 hL2
 ·intro x L' h;simpa using hH.dom x L' h
 ·intro g l hg
  obtain ⟨h1,h2⟩:=hH.glob g l hg
  refine ⟨by simpa using h1,fun i x hx=>?_⟩
  obtain ⟨v,hv,hv',hmay⟩:=h2 i x hx
  have hne:gIx g ≠ L.c:=hH.apart b _ L hb rfl hL g l hg
  obtain ⟨b0,hb0⟩:=gAt_eq g
  exact ⟨v,by rw [hb0] at hv ⊢;rw [World.cell?_of_block (w:=w) (a:=at' (gIx g) (b0 + i)) (hother _ hne)];exact hv,hv',hmay⟩
 ·intro x k L' hk ho hL'
  rcases hget x k hk with ⟨rfl,rfl⟩ | ⟨hx,hk⟩
  ·exact hH.apart x _ L' hb rfl hL'
  ·exact hH.apart x k L' hk ho hL'
 ·intro c hc hn
  refine Kp.of (hother c fun e=>hn ⟨b,_,L,hb,rfl,hL,e.symm⟩)
 ·intro c hc ⟨x,k,L',hk,ho,hL',hLc⟩
  rcases hget x k hk with ⟨rfl,rfl⟩ | ⟨hx,hk⟩
  ·exact ⟨x,_,L',hb,rfl,hL',hLc⟩
  ·exact ⟨x,k,L',hk,ho,hL',hLc⟩
theorem HRel.kill (hH:HRel G β H w) (b:Nat) (d:Data):HRel G β (H.set b ⟨d,.dead⟩) w:=by
 have hget:∀ (x:Nat) k,(H.set b ⟨d,.dead⟩)[x]? = some k → k.mode.alive → H[x]? = some k:=by
  intro x k hk ha
  by_cases e:x = b
  ·subst e
   rcases Nat.lt_or_ge x H.length with h | h
   ·rw [List.getElem?_set_self h] at hk;injection hk with hk;subst hk;exact absurd rfl ha
   ·rw [List.getElem?_eq_none (by simpa using h)] at hk;cases hk
  ·rwa [List.getElem?_set_ne (Ne.symm e)] at hk
 refine ⟨fun x k hk ha=>hH.blk x k (hget x k hk ha) ha,fun x y k k' L L' hne hk hk' ho ha=>hH.dis x y k k' L L' hne (hget x k hk (own_alive ho)) (hget y k' hk' ha) ho ha,
  fun x L h=>by simpa using hH.dom x L h,hH.glob,fun x k L hk ho=>hH.apart x k L (hget x k hk (own_alive ho)) ho⟩
theorem run_storeCells_atG (P:Program) (g o:Nat) (t:TypeId) (fz:Nat × Nat) (hmi:Co.mine g):∀ (vs:List Value) (i:Nat) (cur:Array Value) (w:World),w.heap[g]? = some (.cells cur t fz) → FzOk fz cur.size → o + i + vs.length ≤ cur.size → (∀ v ∈ vs,v.oneCell' = true) →
 (storeCells ⟨g,o,none⟩ vs i).runQ P w = .ok () (w.setRow g (cur.toList.take (o + i) ++ vs ++ cur.toList.drop (o + i + vs.length)).toArray)
 | [],i,cur,w,hg,_,_,_=>by
  simp only [storeCells,List.append_nil,List.length_nil,Nat.add_zero,List.take_append_drop,Array.toArray_toList]
  rw [setRow_self w g cur t fz hg]
  rfl
 | v :: rest,i,cur,w,hg,hfz,hl,h1=>by
  have hi:o + i < cur.size:=by simp at hl;omega
  have hadd:(⟨g,o,none⟩:Addr).add i = ⟨g,o + i,none⟩:=by unfold Addr.add;split <;> simp_all
  have hcell:w.cell? ⟨g,o + i,none⟩ = some cur[o + i]:=by simp [World.cell?,hg,hi]
  have hfro:w.frozen? ⟨g,o + i,none⟩ = false:=by
   obtain ⟨lo,hi'⟩:=fz
   simp only [World.frozen?,hg,Bool.and_eq_false_iff,decide_eq_false_iff_not]
   rcases hfz with e | e
   ·injection e with e1 e2;right;omega
   ·injection e with e1 e2;left;omega
  have hst:(store ((⟨g,o,none⟩:Addr).add i) v).runQ P w = .ok () (w.setRow g (cur.setIfInBounds (o + i) v)):=by
   rw [hadd,runQ_store P w _ v (h1 v (by simp)) hcell hfro ⟨rfl,.inl hmi⟩]
   simp [setCell_eq_setRow w g (o + i) cur t fz v hg]
  have ih:=run_storeCells_atG P g o t fz hmi rest (i + 1) (cur.setIfInBounds (o + i) v) (w.setRow g (cur.setIfInBounds (o + i) v)) (setRow_heap w g cur _ t _ hg) (by simpa using hfz) (by simp at hl ⊢;omega) (fun x hx=>h1 x (by simp [hx]))
  simp only [storeCells,Sem.runQ_bind,hst,Result.andThen_ok,ih,setRow_setRow]
  congr 3
  have e:=list_seg_step cur.toList (o + i) v rest (by simp at hl ⊢;omega)
  simpa [Array.toList_setIfInBounds,Nat.add_assoc] using e
theorem HRel.mineOf (hH:HRel G β H w) {b:Nat} {k:Blk} {L:Loc} (hb:H[b]? = some k) (ho:k.mode = .own) (hL:β b = some L):Co.mine L.c:=by
 obtain ⟨d,m⟩:=k
 cases ho
 rcases hH.blk b _ hb (own_alive rfl) with ⟨L',hL',hbr⟩ | ⟨_,hn⟩
 ·rw [hL] at hL';injection hL' with e;subst e;exact hbr.2.1
 ·rw [hL] at hn;cases hn
theorem HRel.rely (hH:HRel G β H w) {w₁:World} (h:Rely w w₁):HRel G β H w₁:=by
 refine ⟨fun b k hk ha=>?_,hH.dis,hH.dom,fun g l hg=>?_,hH.apart⟩
 ·rcases hH.blk b k hk ha with ⟨L,hL,hbr⟩ | h2
  ·exact .inl ⟨L,hL,hbr.mono (Map.le_refl β) h.size (h.kp (hbr.lt ha))⟩
  ·exact .inr h2
 ·obtain ⟨h1,h2⟩:=hH.glob g l hg
  refine ⟨Nat.lt_of_lt_of_le h1 h.size,fun i x hx=>?_⟩
  obtain ⟨v,hv,hv',hm⟩:=h2 i x hx
  obtain ⟨b0,hb0⟩:=gAt_eq g
  rw [hb0] at hv hm ⊢
  exact ⟨v,h.cell hm hv,hv',hm⟩
theorem HRel.mark (hH:HRel G β H w) {b:Nat} {d:Data} {L:Loc} (hb:H[b]? = some ⟨d,.own⟩) (hL:β b = some L) :
 ∃ (e:TypeId),w.shape? L.c = some (e,L.room) ∧ HRel G β H (w.freeze ⟨L.c,L.room,none⟩ 1) ∧ Stp β H w β H (w.freeze ⟨L.c,L.room,none⟩ 1):=by
 have hob:OOk β d L w:=by
  rcases hH.blk b _ hb (own_alive rfl) with ⟨L',hL',hbr⟩ | ⟨_,hn⟩
  ·rw [hL] at hL';injection hL' with e;subst e;exact hbr
  ·rw [hL] at hn;cases hn
 obtain ⟨h0,hmi,vs,t,fz,hh,hfz,hvl,hdl,hrr⟩:=hob
 have hlt:L.c < w.heap.size:=(Array.getElem?_eq_some_iff.1 hh).1
 have hv:w.heap[L.c] = .cells ⟨vs⟩ t fz:=(Array.getElem?_eq_some_iff.1 hh).2
 have hnew:(w.freeze ⟨L.c,L.room,none⟩ 1).heap[L.c]? = some (.cells ⟨vs⟩ t (vs.length,vs.length + 1)):=by
  unfold World.freeze
  rw [if_neg (by decide)]
  simp only
  rw [Array.getElem?_eq_getElem (by simpa using hlt),Array.getElem_modify]
  obtain ⟨lo,hi⟩:=fz
  rcases hfz with e | e
  ·injection e with e1 e2;subst e1 e2;simp [hv,hvl]
  ·injection e with e1 e2;subst e1 e2;simp [hv,hvl]
 have hother:∀ c,c ≠ L.c → (w.freeze ⟨L.c,L.room,none⟩ 1).heap[c]? = w.heap[c]?:=by
  intro c hc
  unfold World.freeze
  rw [if_neg (by decide)]
  simp only
  rw [Array.getElem?_modify,if_neg (Ne.symm hc)]
 have hsz:(w.freeze ⟨L.c,L.room,none⟩ 1).heap.size = w.heap.size:=by
  unfold World.freeze
  rw [if_neg (by decide)]
  simp
 have hos:(w.freeze ⟨L.c,L.room,none⟩ 1).os = w.os ∧ (w.freeze ⟨L.c,L.room,none⟩ 1).tape = w.tape ∧ (w.freeze ⟨L.c,L.room,none⟩ 1).output = w.output:=by
  unfold World.freeze
  rw [if_neg (by decide)]
  exact ⟨rfl,rfl,rfl⟩
 refine ⟨t,by simp [World.shape?,hh,hvl],⟨?_,hH.dis,hH.dom,?_,hH.apart⟩,⟨Map.le_refl β,Nat.le_refl _,hos.1,hos.2.1,hos.2.2,by omega,?_,fun _ _ h=>h,fun _ _=>rfl⟩⟩
 ·intro x k hk ha
  by_cases e:x = b
  ·subst e
   rw [hb] at hk;injection hk with hk;subst hk
   exact .inl ⟨L,hL,h0,hmi,vs,t,_,hnew,.inr rfl,hvl,hdl,hrr⟩
  ·rcases hH.blk x k hk ha with ⟨L',hL',hbr⟩ | h
   ·refine .inl ⟨L',hL',hbr.mono (Map.le_refl β) (by omega) (Kp.of (hother _ ?_))⟩
    exact (hH.dis b x _ k L L' (Ne.symm e) hb hk rfl ha hL hL').symm
   ·exact .inr h
 ·intro g l hg
  obtain ⟨h1,h2⟩:=hH.glob g l hg
  refine ⟨by omega,fun i x hx=>?_⟩
  obtain ⟨v,hv,hv',hmay⟩:=h2 i x hx
  have hne:gIx g ≠ L.c:=hH.apart b _ L hb rfl hL g l hg
  obtain ⟨b0,hb0⟩:=gAt_eq g
  exact ⟨v,by rw [hb0] at hv ⊢;rw [World.cell?_of_block (w:=w) (a:=at' (gIx g) (b0 + i)) (hother _ hne)];exact hv,hv',hmay⟩
 ·intro c hc hn
  refine Kp.of (hother c fun e=>hn ?_)
  exact ⟨b,_,L,hb,rfl,hL,e.symm⟩
theorem far_alloc (w:World) (o:Obj):Far w (w.alloc o):=⟨rfl,rfl,rfl,fun c hc _=>RowKit.Below.heap_alloc w _ c hc⟩
theorem far_setRow (w:World) {g:Nat} (hmi:Co.mine g) (vs:Array Value):Far w (w.setRow g vs):=⟨rfl,rfl,rfl,fun c hc hn=>setRow_other w g c _ (show c ≠ g from fun e=>hn (by rw [e];exact hmi))⟩
theorem far_drew (w:World):Far w w.drew:=⟨rfl,rfl,rfl,fun _ _ _=>rfl⟩
theorem Far.trans {a b c:World} (h:Far a b) (k:Far b c) (hs:a.heap.size ≤ b.heap.size):Far a c:=
 ⟨k.os.trans h.os,k.tape.trans h.tape,k.output.trans h.output,fun x hx hn=>(k.far x (Nat.lt_of_lt_of_le hx hs) hn).trans (h.far x hx hn)⟩
theorem far_freeze (w:World) {g:Nat} (hmi:Co.mine g) (o n:Nat):Far w (w.freeze ⟨g,o,none⟩ n):=by
 unfold World.freeze
 split
 ·exact Far.refl w
 ·refine ⟨rfl,rfl,rfl,fun c hc hn=>?_⟩
  simp only
  rw [Array.getElem?_modify,if_neg (fun e=>hn (by rw [← e];exact hmi))]
theorem new_alloc {w:World} {o:Obj} (h:New w (w.alloc o)):Co.mine w.heap.size:=h _ (Nat.le_refl _) (by show w.heap.size < (w.heap.push _).size;simp)
theorem new_alloc_drew {w:World} {o:Obj} (h:New w (w.drew.alloc o)):Co.mine w.drew.heap.size:=h _ (Nat.le_refl _) (by show w.heap.size < (w.heap.push _).size;simp)
theorem far_alloc_drew (w:World) (o:Obj):Far w (w.drew.alloc o):=(far_drew w).trans (far_alloc _ _) (Nat.le_refl _)
theorem runQ_loadCells_list (P:Program) (w:World) (a:Addr) (cs:List Value) (h:∀ (j:Nat) v,cs[j]? = some v → w.cell? (a.add j) = some v) (hm:∀ j,j < cs.length → May (a.add j) false) :
 (loadCells a cs.length).runQ P w = .ok ⟨cs⟩ w:=by
 have key:∀ (n i:Nat) (acc:Array Value),i + n = cs.length → acc.toList = cs.take i → (loadCellsFrom a i n acc).runQ P w = .ok ⟨cs⟩ w:=by
  intro n
  induction n with
  | zero=>
   intro i acc hi ha
   simp only [loadCellsFrom,Sem.runQ_pure]
   congr 1
   apply Array.ext'
   rw [ha,List.take_of_length_le (by omega)]
  | succ n ih=>
   intro i acc hi ha
   have hlt:i < cs.length:=by omega
   simp only [loadCellsFrom,Sem.runQ_bind,runQ_load P w (h i cs[i] (List.getElem?_eq_getElem hlt)) (hm i hlt),Result.andThen_ok]
   refine ih (i + 1) _ (by omega) ?_
   rw [Array.toList_push,ha,List.take_add_one,List.getElem?_eq_getElem hlt];rfl
 exact key cs.length 0 #[] (by omega) (by simp)
theorem runQ_firstCells_some (P:Program) (w:World) (size n:Nat) (b:Addr) (len cap:Nat) (cs:List Value) (hl:cs.length = n * size) (h:∀ (j:Nat) v,cs[j]? = some v → w.cell? (b.add j) = some v) (hm:∀ j,j < cs.length → May (b.add j) false) :
 (Builtin.firstCells size n (.slice (some b) len cap)).runQ P w = .ok ⟨cs⟩ w:=by
 simp only [Builtin.firstCells,← hl]
 exact runQ_loadCells_list P w b cs h hm
theorem runQ_firstCells_none (P:Program) (w:World) (size n len cap:Nat):(Builtin.firstCells size n (.slice none len cap)).runQ P w = .ok #[] w:=by simp [Builtin.firstCells]
theorem St.write_spec {S S':St} {b:Nat} {d:Data} (h:S.write b d = some S'):∃ d0,S.H[b]? = some ⟨d0,.own⟩ ∧ S'.H = S.H.set b ⟨d,.own⟩ ∧ S'.low = min S.low b ∧ S'.cond = S.cond ∧ S'.dec = S.dec:=by
 unfold St.write at h
 rw [lget_eq] at h
 cases hb:S.H[b]? with
 | none=>simp [hb] at h
 | some k=>
  obtain ⟨d',m⟩:=k
  rw [hb] at h
  cases m <;> simp at h
  subst h
  exact ⟨d',rfl,lset_eq _ _ _,rfl,rfl,rfl⟩
end
end
section
variable [RowAddr] [Co]
section
variable {P:Program} {G:Nat → Option (List AV)} {β:Map} {w:World}
def Does (P:Program) (G:Nat → Option (List AV)) (β:Map) (S:St) (w:World) (s:Sem Value) (x:AV) (S':St):Prop:=
 ∃ v w',s.runQ P w = .ok v w' ∧ Far w w' ∧ (New w w' → ∃ β',VRel β' x v ∧ HRel G β' S'.H w' ∧ Stp β S.H w β' S'.H w')
def DoesU (P:Program) (G:Nat → Option (List AV)) (β:Map) (S:St) (w:World) (s:Sem Unit) (S':St):Prop:=
 ∃ w',s.runQ P w = .ok () w' ∧ Far w w' ∧ (New w w' → ∃ β',HRel G β' S'.H w' ∧ Stp β S.H w β' S'.H w')
theorem Does.pure {S S':St} {s:Sem Value} {x:AV} {v:Value} (hH:HRel G β S.H w) (hp:Pure S S') (h:s.runQ P w = .ok v w) (hv:VRel β x v):Does P G β S w s x S':=by
 refine ⟨v,w,h,Far.refl w,fun _=>⟨β,hv,?_,?_⟩⟩
 ·rw [hp.H];exact hH
 ·rw [hp.H];exact Stp.refl β S.H w
theorem run_und {t:TypeId} {d:TypeDesc} (h:P.underlying t = some d) (w:World):(underlying t).runQ P w = .ok d w:=runQ_underlying h w
theorem isAggT_spec {t:TypeId} {b:Bool} (h:isAggT P t = some b) (w:World):(isAgg t).runQ P w = .ok b w:=by
 unfold isAggT at h
 cases hu:P.underlying t with
 | none=>simp [hu] at h
 | some d=>cases d <;> simp [hu] at h <;> subst h <;> simp [isAgg,run_und hu]
theorem sizeT_info {t:TypeId} {n:Nat} (h:sizeT P t = some n):∃ i,P.info? t = some i ∧ i.size = n:=by
 unfold sizeT at h
 cases hi:P.info? t with
 | none=>simp [hi] at h
 | some i=>simp [hi] at h;exact ⟨i,rfl,h⟩
theorem sizeT_spec {t:TypeId} {n:Nat} (h:sizeT P t = some n) (w:World):(sizeOf t).runQ P w = .ok n w:=by
 obtain ⟨i,hi,rfl⟩:=sizeT_info h
 simp [sizeOf,typeInfo,hi]
theorem single_one {x:AV} {v:Value} (h:x.single = true) (hv:VRel β x v):v.oneCell' = true ∧ v.cells = #[v]:=by
 cases hv <;> simp [AV.single] at h <;> simp [Value.oneCell',Value.cells,Num.val]
theorem row_spec {x:AV} {v:Value} {l:List AV} (h:x.row = some l) (hv:VRel β x v):LRel β l v.cells.toList:=by
 unfold AV.row at h
 split at h
 ·injection h with h;subst h
  obtain ⟨vs,rfl,hl⟩:=hv.agg_inv
  exact hl
 ·split at h
  ·rename_i hs
   injection h with h;subst h
   rw [(single_one hs hv).2]
   exact LRel.cons hv (LRel.nil β)
  ·cases h
theorem allSingle_spec {xs:List AV} {vs:List Value} (h:allSingle xs = true) (hv:LRel β xs vs):∀ v ∈ vs,v.oneCell' = true:=by
 induction xs generalizing vs with
 | nil=>rw [hv.nil_inv];intro v hv;cases hv
 | cons x xs ih=>
  obtain ⟨v,vs',rfl,h1,h2⟩:=hv.cons_inv
  simp only [allSingle] at h
  cases hs:x.single with
  | false=>simp [hs] at h
  | true=>
   simp only [hs] at h
   intro u hu
   rcases List.mem_cons.1 hu with rfl | hu
   ·exact (single_one hs h1).1
   ·exact ih h h2 u hu
theorem loadOp_spec {t:TypeId} {a x:AV} {va:Value} {S S':St} (h:loadOp P G t a S = some (x,S')) (ha:VRel β a va) (hH:HRel G β S.H w) :
 Pure S S' ∧ (S'.ok → Does P G β S w (Instr.loadAt t va) x S'):=by
 unfold loadOp at h
 cases hg:isAggT P t with
 | none=>simp [hg] at h
 | some b=>
  cases b with
  | true=>
   simp only [hg] at h
   cases hs:sizeT P t with
   | none=>simp [hs] at h
   | some n=>
    simp only [hs] at h
    cases hr:readCells G a n S with
    | none=>simp [hr] at h
    | some r=>
     obtain ⟨l,S2⟩:=r
     simp only [hr,Option.some.injEq,Prod.mk.injEq] at h
     obtain ⟨rfl,rfl⟩:=h
     obtain ⟨hp,hx⟩:=readCells_spec hH ha hr
     refine ⟨hp,fun ok=>?_⟩
     obtain ⟨p,vs,rfl,hl,hlen,hc,hmay⟩:=hx ok
     refine Does.pure hH hp (v:=.agg ⟨vs⟩) ?_ (VRel.aggL hl)
     have hvl:vs.length = n:=by rw [← hl.1,hlen]
     have:=runQ_loadCells_list P w p vs hc (by rw [← hl.1,hlen];exact hmay)
     rw [hvl] at this
     simp [Instr.loadAt,Instr.sureAddr,loadVar,isAggT_spec hg w,sizeT_spec hs w,this]
  | false=>
   simp only [hg] at h
   obtain ⟨hp,hx⟩:=readCell_spec hH ha h
   refine ⟨hp,fun ok=>?_⟩
   obtain ⟨p,v,rfl,hc,hv,hmay⟩:=hx ok
   refine Does.pure hH hp (v:=v) ?_ hv
   simp [Instr.loadAt,Instr.sureAddr,loadVar,isAggT_spec hg w,runQ_load P w hc hmay]
theorem Data.set0_spec {d d':Data} {o:N} {x:AV} {S S':St} (h:d.set0 o x S = some (d',S')) :
 Pure S S' ∧ d'.len = d.len ∧ (S'.ok → o.v < d.len ∧ ∀ {β:Map} {v:Value} {vs:List Value},VRel β x v → LRel β d.list vs → LRel β d'.list (vs.set o.v v)):=by
 cases d with
 | gen l=>
  cases o with
  | s _=>simp [Data.set0] at h
  | c n=>
   simp only [Data.set0] at h
   cases hb:Nat.blt n l.length <;> simp [hb] at h
   obtain ⟨rfl,rfl⟩:=h
   rw [lset_eq]
   refine ⟨Pure.refl _,by simp [Data.len],fun _=>⟨by show n < l.length;simpa using hb,fun hv hl=>?_⟩⟩
   exact hl.set hv n
 | b8 l=>
  simp only [Data.set0,Option.map_eq_some_iff,Prod.mk.injEq] at h
  obtain ⟨y,hy,rfl,rfl⟩:=h
  refine ⟨demand_pure _ _,rfl,fun o'=>⟨of_decide_eq_true (demand_ok o'),fun hv hl=>?_⟩⟩
  cases x <;> simp only [AV.bv8,reduceCtorEq] at hy
  have e:=hv.num_inv
  rw [Num.bv8_spec hy] at e
  subst e
  simp only [Data.list,Vec.set] at hl ⊢
  rw [List.map_set]
  exact hl.set (VRel.of_n (.w8 y)) _
 | b32 l=>
  simp only [Data.set0,Option.map_eq_some_iff,Prod.mk.injEq] at h
  obtain ⟨y,hy,rfl,rfl⟩:=h
  refine ⟨demand_pure _ _,rfl,fun o'=>⟨of_decide_eq_true (demand_ok o'),fun hv hl=>?_⟩⟩
  cases x <;> simp only [AV.bv32,reduceCtorEq] at hy
  have e:=hv.num_inv
  rw [Num.bv32_spec hy] at e
  subst e
  simp only [Data.list,Vec.set] at hl ⊢
  rw [List.map_set]
  exact hl.set (VRel.of_n (.w32 y)) _
 | b64 l=>
  simp only [Data.set0,Option.map_eq_some_iff,Prod.mk.injEq] at h
  obtain ⟨y,hy,rfl,rfl⟩:=h
  refine ⟨demand_pure _ _,rfl,fun o'=>⟨of_decide_eq_true (demand_ok o'),fun hv hl=>?_⟩⟩
  cases x <;> simp only [AV.bv64,reduceCtorEq] at hy
  have e:=hv.num_inv
  rw [Num.bv64_spec hy] at e
  subst e
  simp only [Data.list,Vec.set] at hl ⊢
  rw [List.map_set]
  exact hl.set (VRel.of_n (.w64 y)) _
 | spot _ _ _=>simp [Data.set0] at h
 | kn _ _=>simp [Data.set0] at h
theorem Data.set1_spec {d d':Data} {o:N} {x:AV} {S S':St} (h:d.set1 o x S = some (d',S')) :
 Pure S S' ∧ d'.len = d.len ∧ (S'.ok → o.v < d.len ∧ ∀ {β:Map} {v:Value} {vs:List Value},VRel β x v → LRel β d.list vs → LRel β d'.list (vs.set o.v v)):=by
 unfold Data.set1 at h
 split at h
 ·rename_i m hm
  split at h
  ·rename_i y hy
   simp only [Option.some.injEq,Prod.mk.injEq] at h
   obtain ⟨rfl,rfl⟩:=h
   refine ⟨demand_pure _ _,put_len hm rfl,fun o'=>?_⟩
   have hd:=of_decide_eq_true (demand_ok o')
   have hr:=m.row.h
   have hl:=mid_len hm
   refine ⟨by omega,fun {β v vs} hv hvs=>?_⟩
   rw [put_list (show (m.row.set (o.v - m.pre.length) y).n = m.row.n from rfl)]
   cases x <;> simp only [AV.bv8,reduceCtorEq] at hy
   have e:=hv.num_inv
   rw [Num.bv8_spec hy] at e
   subst e
   have k:=(mid_rel hm hvs).set (VRel.of_n (.w8 y)) o.v
   have e1:(m.pre ++ (m.row.l.map AV.w8 ++ m.post)).set o.v (.w8 y) = m.pre ++ ((m.row.set (o.v - m.pre.length) y).l.map AV.w8 ++ m.post):=by
    rw [List.set_append_right _ _ (by omega),List.set_append_left _ _ (by rw [List.length_map];omega),← List.map_set];rfl
   rw [← e1];exact k
  ·cases h
 ·cases h
theorem Data.set_spec {d d':Data} {o:N} {x:AV} {S S':St} (h:d.set o x S = some (d',S')) :
 Pure S S' ∧ d'.len = d.len ∧ (S'.ok → o.v < d.len ∧ ∀ {β:Map} {v:Value} {vs:List Value},VRel β x v → LRel β d.list vs → LRel β d'.list (vs.set o.v v)):=by
 unfold Data.set at h
 split at h
 ·rename_i r hr
  injection h with h;subst h
  exact Data.set0_spec hr
 ·split at h
  ·rename_i d2 hd
   obtain ⟨h1,h2,h3⟩:=Data.set0_spec h
   refine ⟨h1,h2.trans (words_len hd),fun ok=>?_⟩
   obtain ⟨g1,g2⟩:=h3 ok
   exact ⟨by rw [← words_len hd];exact g1,fun hv hl=>g2 hv (words_rel hd hl)⟩
  ·exact Data.set1_spec h
theorem LRel.over {l xs:List AV} {vs us:List Value} (h:LRel β l vs) (k:LRel β xs us) (o:Nat):LRel β (Eng.over l o xs) (Eng.over vs o us):=by
 unfold Eng.over
 rw [show o + xs.length = o + us.length by rw [k.1]]
 exact ((h.take o).append k).append (h.drop _)
theorem over_len {α:Type} (l:List α) (o:Nat) (xs:List α) (h:o + xs.length ≤ l.length):(Eng.over l o xs).length = l.length:=by simp [Eng.over];omega
theorem over_map {α γ:Type} (f:α → γ) (l:List α) (o:Nat) (xs:List α):(Eng.over l o xs).map f = Eng.over (l.map f) o (xs.map f):=by simp [Eng.over]
theorem setL_over {α:Type}:∀ (xs l:List α) (o:Nat),o + xs.length ≤ l.length → setL l o xs = Eng.over l o xs
 | [],l,o,_=>by simp [setL,Eng.over]
 | x :: xs,l,o,h=>by
  simp only [List.length_cons] at h
  rw [setL,setL_over xs _ _ (by rw [List.length_set];omega)]
  unfold Eng.over
  have e1:(l.set o x).take (o + 1) = l.take o ++ [x]:=by
   rw [List.take_add_one,List.take_set_of_le (Nat.le_refl o),List.getElem?_set_self (by omega)];rfl
  have e2:(l.set o x).drop (o + 1 + xs.length) = l.drop (o + 1 + xs.length):=List.drop_set_of_lt (by omega)
  rw [e1,e2]
  simp [Nat.add_assoc,Nat.add_comm 1]
theorem Data.over0_spec {d d' x:Data} {o:N} {S S':St} (h:d.over0 o x S = some (d',S')) :
 Pure S S' ∧ (S'.ok → o.v + x.len ≤ d.len ∧ d'.len = d.len ∧ ∀ {β:Map} {us vs:List Value},LRel β x.list us → LRel β d.list vs → LRel β d'.list (Eng.over vs o.v us)):=by
 cases d with
 | gen l=>
  cases o with
  | s _=>simp [Data.over0] at h
  | c n=>
   cases x <;> simp [Data.over0] at h
   rename_i xs
   obtain ⟨r,hr,rfl,rfl⟩:=h
   obtain ⟨h1,rfl⟩:=lput_eq _ _ _ _ hr
   exact ⟨Pure.refl _,fun _=>⟨h1,over_len l n xs h1,fun hu hv=>LRel.over hv hu n⟩⟩
 | b8 l=>
  simp only [Data.over0,Option.map_eq_some_iff,Prod.mk.injEq] at h
  obtain ⟨xs,hx,rfl,rfl⟩:=h
  refine ⟨demand_pure _ _,fun o'=>?_⟩
  have hd:=of_decide_eq_true (demand_ok o')
  have hlx:x.len = xs.n:=(as8_len hx).symm
  have h1:=l.h
  have h2:=xs.h
  refine ⟨by rw [hlx];exact hd,rfl,fun hu hv=>?_⟩
  simp only [Data.list,Vec.over] at hv ⊢
  rw [setL_over _ _ _ (by omega),over_map]
  exact LRel.over hv (as8_rel hx hu) _
 | b32 l=>
  simp only [Data.over0,Option.map_eq_some_iff,Prod.mk.injEq] at h
  obtain ⟨xs,hx,rfl,rfl⟩:=h
  refine ⟨demand_pure _ _,fun o'=>?_⟩
  have hd:=of_decide_eq_true (demand_ok o')
  have hlx:x.len = xs.n:=(as32_len hx).symm
  have h1:=l.h
  have h2:=xs.h
  refine ⟨by rw [hlx];exact hd,rfl,fun hu hv=>?_⟩
  simp only [Data.list,Vec.over] at hv ⊢
  rw [setL_over _ _ _ (by omega),over_map]
  exact LRel.over hv (as32_rel hx hu) _
 | b64 l=>
  simp only [Data.over0,Option.map_eq_some_iff,Prod.mk.injEq] at h
  obtain ⟨xs,hx,rfl,rfl⟩:=h
  refine ⟨demand_pure _ _,fun o'=>?_⟩
  have hd:=of_decide_eq_true (demand_ok o')
  have hlx:x.len = xs.n:=(as64_len hx).symm
  have h1:=l.h
  have h2:=xs.h
  refine ⟨by rw [hlx];exact hd,rfl,fun hu hv=>?_⟩
  simp only [Data.list,Vec.over] at hv ⊢
  rw [setL_over _ _ _ (by omega),over_map]
  exact LRel.over hv (as64_rel hx hu) _
 | spot _ _ _=>simp [Data.over0] at h
 | kn _ _=>simp [Data.over0] at h
theorem Data.over1_spec {d d' x:Data} {o:N} {S S':St} (h:d.over1 o x S = some (d',S')) :
 Pure S S' ∧ (S'.ok → o.v + x.len ≤ d.len ∧ d'.len = d.len ∧ ∀ {β:Map} {us vs:List Value},LRel β x.list us → LRel β d.list vs → LRel β d'.list (Eng.over vs o.v us)):=by
 unfold Data.over1 at h
 split at h
 ·rename_i m hm
  split at h
  ·rename_i xs hx
   simp only [Option.some.injEq,Prod.mk.injEq] at h
   obtain ⟨rfl,rfl⟩:=h
   refine ⟨demand_pure _ _,fun o'=>?_⟩
   have hd:=of_decide_eq_true (demand_ok o')
   have hr:=m.row.h
   have hxl:=xs.h
   have hl:=mid_len hm
   have hlx:x.len = xs.n:=(as8_len hx).symm
   refine ⟨by omega,put_len hm rfl,fun {β us vs} hu hv=>?_⟩
   rw [put_list (show (m.row.over (o.v - m.pre.length) xs).n = m.row.n from rfl)]
   have k:=LRel.over (mid_rel hm hv) (as8_rel hx hu) o.v
   have e1:Eng.over (m.pre ++ (m.row.l.map AV.w8 ++ m.post)) o.v (xs.l.map AV.w8) = m.pre ++ ((m.row.over (o.v - m.pre.length) xs).l.map AV.w8 ++ m.post):=by
    show _ = m.pre ++ ((setL m.row.l (o.v - m.pre.length) xs.l).map AV.w8 ++ m.post)
    rw [setL_over _ _ _ (by omega),over_map]
    unfold Eng.over
    simp only [List.length_map]
    rw [show o.v + xs.l.length = m.pre.length + (o.v - m.pre.length + xs.l.length) by omega]
    have e2:o.v = m.pre.length + (o.v - m.pre.length):=by omega
    generalize o.v - m.pre.length = q at *
    rw [e2,List.take_append,List.take_append,List.drop_append,List.drop_append]
    simp only [Nat.add_sub_cancel_left,List.length_map]
    rw [List.take_of_length_le (l:=m.pre) (by omega),List.drop_of_length_le (l:=m.pre) (by omega),show q - m.row.l.length = 0 by omega,show q + xs.l.length - m.row.l.length = 0 by omega]
    simp
   rw [← e1];exact k
  ·cases h
 ·cases h
theorem Data.over_spec {d d' x:Data} {o:N} {S S':St} (h:d.over o x S = some (d',S')) :
 Pure S S' ∧ (S'.ok → o.v + x.len ≤ d.len ∧ d'.len = d.len ∧ ∀ {β:Map} {us vs:List Value},LRel β x.list us → LRel β d.list vs → LRel β d'.list (Eng.over vs o.v us)):=by
 unfold Data.over at h
 split at h
 ·rename_i r hr
  injection h with h;subst h
  exact Data.over0_spec hr
 ·split at h
  ·rename_i d2 hd
   obtain ⟨h1,h3⟩:=Data.over0_spec h
   refine ⟨h1,fun ok=>?_⟩
   obtain ⟨g1,g2,g3⟩:=h3 ok
   exact ⟨by rw [← words_len hd];exact g1,g2.trans (words_len hd),fun hv hl=>g3 hv (words_rel hd hl)⟩
  ·exact Data.over1_spec h
theorem Pure.of_write {S S' S'':St} {b:Nat} {d:Data} (hp:Pure S S') (h:S'.write b d = some S''):S''.ok → S.ok:=by
 obtain ⟨_,_,_,_,hc,_⟩:=St.write_spec h
 intro o
 exact hp.ok fun x hx=>o x (by rw [hc];exact hx)
theorem ok_of_write {S' S'':St} {b:Nat} {d:Data} (h:S'.write b d = some S''):S''.ok → S'.ok:=by
 obtain ⟨_,_,_,_,hc,_⟩:=St.write_spec h
 exact fun o x hx=>o x (by rw [hc];exact hx)
theorem stored_spec {S S1 S2:St} {b:Nat} {d d':Data} {o:Nat} {L:Loc} {us:List Value} (hH:HRel G β S.H w) (hp:Pure S S1) (hb:S.read b = some d) (hw:S1.write b d' = some S2)
 (hL:β b = some L) (ho:o + us.length ≤ d.len) (hd:d'.len = d.len) (hr:∀ {vs:List Value},LRel β d.list vs → LRel β d'.list (Eng.over vs o us)) (h1:∀ v ∈ us,v.oneCell' = true) :
 DoesU P G β S w (storeCells (at' L.c (L.base + o)) us) S2:=by
 obtain ⟨d0,hb0,hH2,_,_,_⟩:=St.write_spec hw
 obtain ⟨m,hbm,hm⟩:=St.read_spec hb
 rw [hp.H,hbm] at hb0
 injection hb0 with e;injection e with e1 e2;subst e1 e2
 have hob:OOk β d L w:=by
  rcases hH.blk b _ hbm hm with ⟨L',hL',hbr⟩ | ⟨_,hn⟩
  ·rw [hL] at hL';injection hL' with e;subst e;exact hbr
  ·rw [hL] at hn;cases hn
 obtain ⟨h0,hmi,vs,t,fz,hh,hfz,hvl,hdl,hrr⟩:=hob
 have hst:=run_storeCells_atG P L.c o t fz hmi us 0 ⟨vs⟩ w hh hfz (by simp;omega) h1
 simp only [Nat.add_zero] at hst
 have e:at' L.c (L.base + o) = ⟨L.c,o,none⟩:=by simp [at',h0]
 have hov:(vs.take o ++ us ++ vs.drop (o + us.length)) = Eng.over vs o us:=rfl
 have hlen:(Eng.over vs o us).length = L.room:=by rw [over_len _ _ _ (by omega),hvl]
 have hrel:LRel β d'.list ((Eng.over vs o us).take d'.len):=by
  have:=hr hrr
  have e2:Eng.over (vs.take d.len) o us = (Eng.over vs o us).take d'.len:=by
   rw [hd]
   apply List.ext_getElem?
   intro i
   simp only [Eng.over,List.getElem?_append,List.getElem?_take,List.getElem?_drop,List.length_append,List.length_take]
   repeat' split
   all_goals first | rfl | omega | (congr 1;omega) | skip
   all_goals (try simp_all)
   all_goals (try omega)
  rw [← e2];exact this
 have hw':=hH.write hbm hL (Eng.over vs o us) hlen (by omega) hrel
 refine ⟨w.setRow L.c ⟨Eng.over vs o us⟩,?_,far_setRow w hmi _,fun _=>⟨β,?_,?_⟩⟩
 ·rw [e];rw [hst];rfl
 ·rw [hH2,hp.H];exact hw'.1
 ·rw [hH2,hp.H];exact hw'.2
end
end
section
variable [RowAddr] [Co]
section
variable {P:Program} {G:Nat → Option (List AV)} {β:Map} {w:World}
theorem storeOp_spec {t:TypeId} {a x:AV} {va vx:Value} {S S':St} (h:storeOp P t a x S = some S') (ha:VRel β a va) (hx:VRel β x vx) (hH:HRel G β S.H w) :
 (S'.ok → S.ok) ∧ (S'.ok → DoesU P G β S w (Instr.storeAt t va vx) S'):=by
 unfold storeOp at h
 split at h
 case h_2=>cases h
 rename_i b o
 obtain ⟨L,hL,rfl⟩:=ha.ptr_inv
 cases hr:S.read b with
 | none=>simp [hr] at h
 | some d=>
  simp only [hr] at h
  cases hs:sizeT P t with
  | none=>simp [hs] at h
  | some n=>
   simp only [hs] at h
   split at h
   ·rename_i xs
    obtain ⟨vs,rfl,hl⟩:=hx.agg_inv
    split at h
    case h_2=>cases h
    rename_i hc
    simp only [Bool.and_eq_true] at hc
    have hn:xs.length = n:=by simpa using hc.1
    split at h
    case h_2=>cases h
    rename_i d' S1 ho
    obtain ⟨hp,hov⟩:=Data.over_spec ho
    refine ⟨hp.of_write h,fun ok=>?_⟩
    obtain ⟨h1,h2,h3⟩:=hov (ok_of_write h ok)
    have:=stored_spec (P:=P) (us:=vs) hH hp hr h hL (by rw [← hl.1];exact h1) h2 (fun hv=>h3 hl hv) (allSingle_spec hc.2 hl)
    obtain ⟨w',h4,h5,h6⟩:=this
    refine ⟨w',?_,h5,h6⟩
    have hvn:¬ (vs.length ≠ n):=by rw [← hl.1,hn];simp
    simp [Instr.storeAt,Instr.sureAddr,storeVar,sizeT_spec hs w,Value.cells,hvn,h4]
   ·split at h
    case h_2=>cases h
    rename_i hsg
    split at h
    case h_2=>cases h
    rename_i h1n
    split at h
    case h_2=>cases h
    rename_i d' S1 hst
    obtain ⟨hp,hlen,hov⟩:=Data.set_spec hst
    refine ⟨hp.of_write h,fun ok=>?_⟩
    obtain ⟨h1,h2⟩:=hov (ok_of_write h ok)
    obtain ⟨g1,g2⟩:=single_one hsg hx
    have hover:∀ vs:List Value,o.v < vs.length → Eng.over vs o.v [vx] = vs.set o.v vx:=by
     intro vs hlt
     simp only [Eng.over,List.length_cons,List.length_nil]
     rw [List.set_eq_take_append_cons_drop,if_pos hlt];simp
    have:=stored_spec (P:=P) (us:=[vx]) (o:=o.v) hH hp hr h hL (by show o.v + 1 ≤ d.len;omega) hlen
     (fun {vs} hv=>by rw [hover vs (by rw [← hv.1,Data.list_len];exact h1)];exact h2 hx hv) (by simpa using g1)
    obtain ⟨w',h4,h5,h6⟩:=this
    refine ⟨w',?_,h5,h6⟩
    have hn:n = 1:=by simpa using h1n
    simp [Instr.storeAt,Instr.sureAddr,storeVar,sizeT_spec hs w,g2,hn,h4]
theorem AV.nm_spec {x:AV} {v:Value} {z:Z} (h:x.nm = some z) (hv:VRel β x v):∃ k,v = .int k z.v:=by
 cases x <;> simp [AV.nm] at h
 rename_i n
 subst h
 exact ⟨n.k,hv.num_inv⟩
theorem inRange_spec {z l:Z} {S S':St} (h:(inRange z l).claim S = some S'):Pure S S' ∧ (S'.ok → 0 ≤ z.v ∧ z.v < l.v):=by
 obtain ⟨hp,hv⟩:=B.claim_spec h
 refine ⟨hp,fun ok=>?_⟩
 have:=hv ok
 rw [inRange,B.and_v,Z.le_v,Z.lt_v,Bool.and_eq_true] at this
 exact ⟨of_decide_eq_true this.1,of_decide_eq_true this.2⟩
theorem addr_add (c base o i s:Nat):(at' c (base + o)).add (i * s) = at' c (base + (o + i * s)):=by rw [add_at,Nat.add_assoc]
theorem indexAddrOp_spec {t:TypeId} {a i x:AV} {va vi:Value} {S S':St} (h:indexAddrOp P t a i S = some (x,S')) (ha:VRel β a va) (hi:VRel β i vi) (hH:HRel G β S.H w) :
 Pure S S' ∧ (S'.ok → Does P G β S w (Instr.indexAt t va vi) x S'):=by
 unfold indexAddrOp at h
 cases hz:i.nm with
 | none=>simp [hz] at h
 | some z=>
  simp only [hz] at h
  obtain ⟨k,rfl⟩:=AV.nm_spec hz hi
  split at h
  ·rename_i n e hu
   cases hs:sizeT P e with
   | none=>simp [hs] at h
   | some s=>
    simp only [hs] at h
    cases hc:(inRange z (.c n)).claim S with
    | none=>simp [hc] at h
    | some S1=>
     simp only [hc] at h
     obtain ⟨hp,hv⟩:=inRange_spec hc
     have hoff:∀ o:N,(o.add (z.toN.mulc s)).v = o.v + z.v.toNat * s:=fun o=>by rw [N.add_v,N.mulc_v,Z.toN_v]
     split at h
     ·rename_i b o
      obtain ⟨rfl,rfl⟩:_ ∧ _:=by simpa using h
      refine ⟨hp,fun ok=>?_⟩
      obtain ⟨h1,h2⟩:=hv ok
      obtain ⟨L,hL,rfl⟩:=ha.ptr_inv
      refine Does.pure hH hp ?_ (.ptr b _ L hL)
      have h2':z.v < (n:Int):=h2
      simp [Instr.indexAt,run_und hu,Instr.sureAddr,asIntOf,sizeT_spec hs w,h1,h2',addr_add,hoff]
     ·rename_i g o
      obtain ⟨rfl,rfl⟩:_ ∧ _:=by simpa using h
      refine ⟨hp,fun ok=>?_⟩
      obtain ⟨h1,h2⟩:=hv ok
      rw [ha.gp_inv]
      refine Does.pure hH hp ?_ (.gp g _)
      have h2':z.v < (n:Int):=h2
      simp [Instr.indexAt,run_und hu,Instr.sureAddr,asIntOf,sizeT_spec hs w,h1,h2',gAt_add,hoff]
     ·cases h
  ·rename_i e hu
   cases hs:sizeT P e with
   | none=>simp [hs] at h
   | some s=>
    simp only [hs] at h
    have hoff:∀ o:N,(o.add (z.toN.mulc s)).v = o.v + z.v.toNat * s:=fun o=>by rw [N.add_v,N.mulc_v,Z.toN_v]
    split at h
    case h_4=>cases h
    case h_3=>
     rename_i b l s'
     split at h
     case h_2=>cases h
     rename_i hss
     have hss:s' = s:=by simpa using hss
     subst hss
     cases hc:(inRange z l.toZ).claim S with
     | none=>simp [hc] at h
     | some S1=>
      simp only [hc,Option.some.injEq,Prod.mk.injEq] at h
      obtain ⟨rfl,rfl⟩:=h
      obtain ⟨hp,hv⟩:=inRange_spec hc
      refine ⟨hp,fun ok=>?_⟩
      obtain ⟨h1,h2⟩:=hv ok
      rw [N.toZ_v] at h2
      obtain ⟨a,cp,rfl,g1,g3⟩:=ha.sm_inv
      rcases g3 with g3 | ⟨L,hL,rfl,g4⟩
      ·omega
      ·refine Does.pure hH hp ?_ (.ptr b _ L hL)
       have e0:(N.c 0).v = 0:=rfl
       simp [Instr.indexAt,run_und hu,asIntOf,sizeT_spec hs w,h1,h2,addr_add,hoff,e0,add_at]
    case h_2=>
     rename_i g o l
     cases hc:(inRange z l.toZ).claim S with
     | none=>simp [hc] at h
     | some S1=>
      simp only [hc,Option.some.injEq,Prod.mk.injEq] at h
      obtain ⟨rfl,rfl⟩:=h
      obtain ⟨hp,hv⟩:=inRange_spec hc
      refine ⟨hp,fun ok=>?_⟩
      obtain ⟨h1,h2⟩:=hv ok
      rw [N.toZ_v] at h2
      obtain ⟨cp,rfl,g1⟩:=ha.gs_inv
      refine Does.pure hH hp ?_ (.gp g _)
      simp [Instr.indexAt,run_und hu,asIntOf,sizeT_spec hs w,h1,h2,gAt_add,hoff]
    rename_i b o l cap
    cases hc:(inRange z l.toZ).claim S with
    | none=>simp [hc] at h
    | some S1=>
     simp only [hc,Option.some.injEq,Prod.mk.injEq] at h
     obtain ⟨rfl,rfl⟩:=h
     obtain ⟨hp,hv⟩:=inRange_spec hc
     refine ⟨hp,fun ok=>?_⟩
     obtain ⟨h1,h2⟩:=hv ok
     rw [N.toZ_v] at h2
     obtain ⟨a,cp,rfl,g1,g2,g3⟩:=ha.sl_inv
     rcases g3 with g3 | ⟨L,hL,rfl,g4⟩
     ·omega
     ·refine Does.pure hH hp ?_ (.ptr b _ L hL)
      simp [Instr.indexAt,run_und hu,asIntOf,sizeT_spec hs w,h1,h2,addr_add,hoff]
  ·cases h
theorem fieldAddrOp_spec {t:TypeId} {a x:AV} {va:Value} {f:Nat} {S:St} (h:fieldAddrOp P t a f = some x) (ha:VRel β a va) (hH:HRel G β S.H w) :
 Does P G β S w (Instr.fieldAt t va f) x S:=by
 unfold fieldAddrOp at h
 split at h
 case h_2=>cases h
 rename_i fields hu
 rw [lget_eq] at h
 cases hf:fields.toList[f]? with
 | none=>simp [hf] at h
 | some fd=>
  simp only [hf] at h
  have hf':fields[f]? = some fd:=by simpa using hf
  split at h
  case h_1=>cases h
  case h_3=>cases h
  rename_i s hne hs
  have hs0:¬ s = 0:=fun e=>hne e
  split at h
  ·rename_i b o
   injection h with h;subst h
   obtain ⟨L,hL,rfl⟩:=ha.ptr_inv
   refine Does.pure hH (Pure.refl _) ?_ (.ptr b _ L hL)
   simp [Instr.fieldAt,run_und hu,hf',Instr.sureAddr,fieldPlace,sizeT_spec hs w,hs0,add_at,Nat.add_assoc]
   rw [N.add_v];rfl
  ·rename_i b o
   injection h with h;subst h
   rw [ha.gp_inv]
   refine Does.pure hH (Pure.refl _) ?_ (.gp b _)
   simp [Instr.fieldAt,run_und hu,hf',Instr.sureAddr,fieldPlace,sizeT_spec hs w,hs0,gAt_add]
   rw [N.add_v];rfl
  ·cases h
def ORel (β:Map) (x:Option AV) (v:Option Value):Prop:=
 match x,v with
 | none,none=>True
 | some x,some v=>VRel β x v
 | _,_=>False
theorem ordered_spec {l h m:Z} {S S':St} (hc:(ordered l h m).claim S = some S'):Pure S S' ∧ (S'.ok → 0 ≤ l.v ∧ l.v ≤ h.v ∧ h.v ≤ m.v):=by
 obtain ⟨hp,hv⟩:=B.claim_spec hc
 refine ⟨hp,fun ok=>?_⟩
 have:=hv ok
 rw [ordered,B.and_v,B.and_v,Z.le_v,Z.le_v,Z.le_v,Bool.and_eq_true,Bool.and_eq_true] at this
 exact ⟨of_decide_eq_true this.1.1,of_decide_eq_true this.1.2,of_decide_eq_true this.2⟩
theorem bound_spec {x:Option AV} {v:Option Value} {d:N} {z:Z} (h:bound x d = some z) (hv:ORel β x v):(v = none ∧ z.v = (d.v:Int)) ∨ ∃ k,v = some (.int k z.v):=by
 cases x with
 | none=>
  cases v with
  | none=>simp [bound] at h;subst h;exact .inl ⟨rfl,N.toZ_v d⟩
  | some v=>exact absurd hv (by simp [ORel])
 | some x=>
  cases v with
  | none=>exact absurd hv (by simp [ORel])
  | some v=>
   obtain ⟨k,rfl⟩:=AV.nm_spec h hv
   exact .inr ⟨k,rfl⟩
theorem run_sliceBound {k:IntKind} {i:Int} {y:Nat} {c:BoundsCode} (h1:0 ≤ i) (h2:i ≤ y):(Instr.sliceBound (.int k i) y c).runQ P w = .ok i.toNat w:=by
 simp [Instr.sliceBound,asIntOf,h1,h2]
theorem run_sliceBounds {isS:Bool} {len cap:Nat} {lo hi mx:Option Value} {l h m:Int}
 (hm:(mx = none ∧ m = cap) ∨ ∃ k,mx = some (.int k m)) (hh:(hi = none ∧ h = len ∧ mx = none) ∨ ∃ k,hi = some (.int k h)) (hl:(lo = none ∧ l = 0) ∨ ∃ k,lo = some (.int k l))
 (o1:0 ≤ l) (o2:l ≤ h) (o3:h ≤ m) (o4:m ≤ cap):(Instr.sliceBounds isS len cap lo hi mx).runQ P w = .ok (l.toNat,h.toNat,m.toNat) w:=by
 have e0:(h.toNat:Int) = h:=Int.toNat_of_nonneg (by omega)
 have e1:(m.toNat:Int) = m:=Int.toNat_of_nonneg (by omega)
 have b1:∀ k c,(Instr.sliceBound (.int k m) cap c).runQ P w = .ok m.toNat w:=fun k c=>run_sliceBound (by omega) o4
 have b2:∀ k c,(Instr.sliceBound (.int k h) m.toNat c).runQ P w = .ok h.toNat w:=fun k c=>run_sliceBound (by omega) (by omega)
 have b3:∀ k c,(Instr.sliceBound (.int k l) h.toNat c).runQ P w = .ok l.toNat w:=fun k c=>run_sliceBound o1 (by omega)
 rcases hm with ⟨rfl,rfl⟩ | ⟨km,rfl⟩
 ·simp only [Int.toNat_natCast] at b2 ⊢
  rcases hh with ⟨rfl,rfl,_⟩ | ⟨kh,rfl⟩
  ·simp only [Int.toNat_natCast] at b3 ⊢
   rcases hl with ⟨rfl,rfl⟩ | ⟨kl,rfl⟩ <;> simp [Instr.sliceBounds,b3]
  ·rcases hl with ⟨rfl,rfl⟩ | ⟨kl,rfl⟩ <;> simp [Instr.sliceBounds,b3,b2]
 ·rcases hh with ⟨rfl,rfl,hx⟩ | ⟨kh,rfl⟩
  ·cases hx
  ·rcases hl with ⟨rfl,rfl⟩ | ⟨kl,rfl⟩ <;> simp [Instr.sliceBounds,b3,b2,b1]
theorem bound_hi {x:Option AV} {v:Option Value} {d:N} {z:Z} (h:bound x d = some z) (hv:ORel β x v):(v = none ∧ z.v = (d.v:Int) ∧ (none:Option Value) = none) ∨ ∃ k,v = some (.int k z.v):=by
 rcases bound_spec h hv with ⟨h1,h2⟩ | h1
 ·exact .inl ⟨h1,h2,rfl⟩
 ·exact .inr h1
theorem ORel.none_l {v:Option Value} (h:ORel β none v):v = none:=by cases v <;> simp [ORel] at h;rfl
theorem ORel.some_l {x:AV} {v:Option Value} (h:ORel β (some x) v):∃ u,v = some u ∧ VRel β x u:=by
 cases v with
 | none=>simp [ORel] at h
 | some u=>exact ⟨u,rfl,h⟩
theorem slice_rel {b:Nat} {o len:N} {cap cap':Option N} {a:Option Addr} {cp:Nat} {l h m:Z} (g3:cp = 0 ∨ ∃ L,β b = some L ∧ a = some (at' L.c (L.base + o.v)) ∧ o.v + cp ≤ L.room)
 (o1:0 ≤ l.v) (o2:l.v ≤ h.v) (o3:h.v ≤ m.v) (o4:m.v ≤ cp) (hcap:∀ C,cap' = some C → C.v = m.v.toNat - l.v.toNat) :
 VRel β (.ref (.sl b (o.add l.toN) (h.toN.sub l.toN) cap')) (.slice (if m.v.toNat = l.v.toNat then a else a.map (·.add (l.v.toNat * 1))) (h.v.toNat - l.v.toNat) (m.v.toNat - l.v.toNat)):=by
 have e:h.v.toNat - l.v.toNat = (h.toN.sub l.toN).v:=by rw [N.sub_v,Z.toN_v,Z.toN_v]
 rw [e]
 refine .sl b _ _ cap' _ _ (by rw [← e];omega) hcap ?_
 by_cases hm:m.v.toNat = l.v.toNat
 ·exact .inl (by omega)
 ·right
  rcases g3 with g3 | ⟨L,hL,rfl,g4⟩
  ·omega
  ·refine ⟨L,hL,?_,?_⟩
   ·rw [if_neg hm,N.add_v,Z.toN_v];simp [add_at,Nat.add_assoc]
   ·rw [N.add_v,Z.toN_v];omega
theorem sliceOp_spec {t:TypeId} {a x:AV} {va:Value} {lo hi mx:Option AV} {vlo vhi vmx:Option Value} {S S':St} (h:sliceOp P t a lo hi mx S = some (x,S')) (ha:VRel β a va)
 (hlo:ORel β lo vlo) (hhi:ORel β hi vhi) (hmx:ORel β mx vmx) (hH:HRel G β S.H w) :
 Pure S S' ∧ (S'.ok → Does P G β S w (Instr.sliceAt t va vlo vhi vmx) x S'):=by
 unfold sliceOp at h
 split at h
 ·rename_i n e hu
  split at h
  case h_2=>cases h
  rename_i b o
  split at h
  case h_1=>cases h
  case h_3=>cases h
  ·rename_i s hs00 hs
   have hs0:¬ s = 0:=fun e=>hs00 e
   obtain ⟨L,hL,rfl⟩:=ha.ptr_inv
   unfold sliceArr at h
   cases hl:bound lo (.c 0) with
   | none=>simp [hl] at h
   | some l=>
    cases hh:bound hi (.c n) with
    | none=>simp [hl,hh] at h
    | some h'=>
     simp only [hl,hh] at h
     cases mx with
     | some _=>simp at h
     | none=>
      obtain rfl:=hmx.none_l
      simp only at h
      cases hr:S.read b with
      | none=>simp [hr] at h
      | some d=>
       simp only [hr] at h
       cases hc0:((o.add (.c (n * s))).le d.lenN).claim S with
       | none=>simp [hc0] at h
       | some S0=>
        simp only [hc0] at h
        obtain ⟨hp0,hv0⟩:=B.claim_spec hc0
        cases hc:(ordered l h' (.c n)).claim S0 with
        | none=>simp [hc] at h
        | some S1=>
         simp only [hc,Option.some.injEq,Prod.mk.injEq] at h
         obtain ⟨rfl,rfl⟩:=h
         obtain ⟨hp,hv⟩:=ordered_spec hc
         refine ⟨hp0.trans hp,fun ok=>?_⟩
         obtain ⟨o1,o2,o3⟩:=hv ok
         have o3':h'.v ≤ (n:Int):=o3
         have hroom:=hv0 (hp.ok ok)
         rw [N.le_v,N.add_v] at hroom
         have hroom:o.v + n * s ≤ d.len:=by
          have hd:d.lenN.v = d.len:=by cases d <;> rfl
          rw [hd] at hroom
          exact of_decide_eq_true hroom
         obtain ⟨m,hbm,hm⟩:=St.read_spec hr
         have hLr:=hH.room hbm hm hL
         simp only at hLr
         have hb:=run_sliceBounds (P:=P) (w:=w) (isS:=false) (len:=n) (cap:=n) (lo:=vlo) (hi:=vhi) (mx:=none) (l:=l.v) (h:=h'.v) (m:=n) (.inl ⟨rfl,rfl⟩)
          (bound_hi hh hhi) (bound_spec hl hlo) o1 o2 o3' (Int.le_refl _)
         simp only [Int.toNat_natCast] at hb
         have e:h'.v.toNat - l.v.toNat = (h'.toN.sub l.toN).v:=by rw [N.sub_v,Z.toN_v,Z.toN_v]
         have hln:l.v.toNat ≤ n:=by omega
         refine Does.pure hH (hp0.trans hp) (v:=.slice (some (if n = l.v.toNat then at' L.c (L.base + o.v) else (at' L.c (L.base + o.v)).add (l.v.toNat * s))) (h'.toN.sub l.toN).v (n - l.v.toNat)) ?_ ?_
         ·simp [Instr.sliceAt,run_und hu,Instr.sureAddr,hb,sizeT_spec hs w,e]
         ·refine .sl b _ _ _ _ _ (by rw [← e];omega) (by intro C hC;injection hC with hC;subst hC;rw [N.sub_v,Z.toN_v];rfl) ?_
          by_cases hnl:n = l.v.toNat
          ·exact .inl (by omega)
          ·refine .inr ⟨L,hL,?_,?_⟩
           ·rw [if_neg hnl,addr_add,N.add_v,N.mulc_v,Z.toN_v]
           ·rw [N.add_v,N.mulc_v,Z.toN_v]
            ·have:l.v.toNat * s + (n - l.v.toNat) ≤ n * s:=by
              have h1:(n - l.v.toNat) ≤ (n - l.v.toNat) * s:=Nat.le_mul_of_pos_right _ (by omega)
              have h2:l.v.toNat * s + (n - l.v.toNat) * s = n * s:=by rw [← Nat.add_mul];congr 1;omega
              omega
             omega
 ·rename_i e hu
  split at h
  ·rename_i b o len cap
   split at h
   case h_2=>cases h
   rename_i hs
   obtain ⟨a,cp,rfl,g1,g2,g3⟩:=ha.sl_inv
   unfold sliceSl at h
   cases hl:bound lo (.c 0) with
   | none=>simp [hl] at h
   | some l=>
    cases hh:bound hi len with
    | none=>simp [hl,hh] at h
    | some h'=>
     simp only [hl,hh] at h
     cases cap with
     | none=>
      cases mx with
      | some _=>simp at h
      | none=>
       obtain rfl:=hmx.none_l
       simp only at h
       cases hc:(ordered l h' len.toZ).claim S with
       | none=>simp [hc] at h
       | some S1=>
        simp only [hc,Option.some.injEq,Prod.mk.injEq] at h
        obtain ⟨rfl,rfl⟩:=h
        obtain ⟨hp,hv⟩:=ordered_spec hc
        refine ⟨hp,fun ok=>?_⟩
        obtain ⟨o1,o2,o3⟩:=hv ok
        rw [N.toZ_v] at o3
        have hb:=run_sliceBounds (P:=P) (w:=w) (isS:=true) (len:=len.v) (cap:=cp) (lo:=vlo) (hi:=vhi) (mx:=none) (l:=l.v) (h:=h'.v) (m:=cp) (.inl ⟨rfl,rfl⟩)
         (bound_hi hh hhi) (bound_spec hl hlo) o1 o2 (by omega) (Int.le_refl _)
        have hr:=slice_rel (β:=β) (b:=b) (o:=o) (len:=len) (cap:=none) (cap':=none) (a:=a) (cp:=cp) (l:=l) (h:=h') (m:=.s cp) g3 o1 o2 (by show h'.v ≤ (cp:Int);omega) (Int.le_refl _) (fun C hC=>by cases hC)
        refine Does.pure hH hp ?_ hr
        simp [Instr.sliceAt,run_und hu,Instr.slice,hb,sizeT_spec hs w,Z.v]
     | some c=>
      have hcp:=g2 c rfl
      cases mx with
      | none=>
       obtain rfl:=hmx.none_l
       simp only at h
       cases hc:(ordered l h' c.toZ).claim S with
       | none=>simp [hc] at h
       | some S1=>
        simp only [hc,Option.some.injEq,Prod.mk.injEq] at h
        obtain ⟨rfl,rfl⟩:=h
        obtain ⟨hp,hv⟩:=ordered_spec hc
        refine ⟨hp,fun ok=>?_⟩
        obtain ⟨o1,o2,o3⟩:=hv ok
        rw [N.toZ_v,hcp] at o3
        have hb:=run_sliceBounds (P:=P) (w:=w) (isS:=true) (len:=len.v) (cap:=cp) (lo:=vlo) (hi:=vhi) (mx:=none) (l:=l.v) (h:=h'.v) (m:=cp) (.inl ⟨rfl,rfl⟩)
         (bound_hi hh hhi) (bound_spec hl hlo) o1 o2 (by omega) (Int.le_refl _)
        have hr:=slice_rel (β:=β) (b:=b) (o:=o) (len:=len) (cap:=none) (cap':=some (c.sub l.toN)) (a:=a) (cp:=cp) (l:=l) (h:=h') (m:=.s cp) g3 o1 o2 (by show h'.v ≤ (cp:Int);omega) (Int.le_refl _)
         (fun C hC=>by injection hC with hC;subst hC;rw [N.sub_v,Z.toN_v,hcp];rfl)
        refine Does.pure hH hp ?_ hr
        simp [Instr.sliceAt,run_und hu,Instr.slice,hb,sizeT_spec hs w,Z.v]
      | some mv=>
       obtain ⟨um,rfl,hum⟩:=hmx.some_l
       simp only at h
       cases hm:mv.nm with
       | none=>simp [hm] at h
       | some m=>
        cases hi with
        | none=>simp [hm] at h
        | some hix=>
        simp only [hm] at h
        obtain ⟨km,rfl⟩:=AV.nm_spec hm hum
        cases hc:(B.and (ordered l h' m) (m.le c.toZ)).claim S with
        | none=>simp [hc] at h
        | some S1=>
         simp only [hc,Option.some.injEq,Prod.mk.injEq] at h
         obtain ⟨rfl,rfl⟩:=h
         obtain ⟨hp,hv⟩:=B.claim_spec hc
         refine ⟨hp,fun ok=>?_⟩
         have hv:=hv ok
         rw [B.and_v,ordered,B.and_v,B.and_v,Z.le_v,Z.le_v,Z.le_v,Z.le_v,Bool.and_eq_true,Bool.and_eq_true,Bool.and_eq_true] at hv
         obtain ⟨⟨⟨o1,o2⟩,o3⟩,o4⟩:=hv
         have o1:0 ≤ l.v:=of_decide_eq_true o1
         have o2:=of_decide_eq_true o2
         have o3:=of_decide_eq_true o3
         have o4:=of_decide_eq_true o4
         rw [N.toZ_v,hcp] at o4
         rcases bound_spec hh hhi with ⟨rfl,_⟩ | ⟨kh,rfl⟩
         ·simp [ORel] at hhi
         ·have hb:=run_sliceBounds (P:=P) (w:=w) (isS:=true) (len:=len.v) (cap:=cp) (lo:=vlo) (hi:=some (.int kh h'.v)) (mx:=some (.int km m.v)) (l:=l.v) (h:=h'.v) (m:=m.v) (.inr ⟨km,rfl⟩)
           (.inr ⟨kh,rfl⟩) (bound_spec hl hlo) o1 o2 o3 o4
          have hr:=slice_rel (β:=β) (b:=b) (o:=o) (len:=len) (cap:=none) (cap':=some (m.toN.sub l.toN)) (a:=a) (cp:=cp) (l:=l) (h:=h') (m:=m) g3 o1 o2 o3 o4
           (fun C hC=>by injection hC with hC;subst hC;rw [N.sub_v,Z.toN_v,Z.toN_v])
          refine Does.pure hH hp ?_ hr
          simp [Instr.sliceAt,run_und hu,Instr.slice,hb,sizeT_spec hs w]
  ·split at h
   ·cases h
   ·cases h
   rename_i hs
   obtain rfl:=hmx.none_l
   cases hl:bound lo (.c 0) with
   | none=>simp [hl] at h
   | some l=>
    cases hh:bound hi (.c 0) with
    | none=>simp [hl,hh] at h
    | some h'=>
     simp only [hl,hh] at h
     cases hc:(ordered l h' (.c 0)).claim S with
     | none=>simp [hc] at h
     | some S1=>
      simp only [hc,Option.some.injEq,Prod.mk.injEq] at h
      obtain ⟨rfl,rfl⟩:=h
      obtain ⟨hp,hv⟩:=ordered_spec hc
      refine ⟨hp,fun ok=>?_⟩
      obtain ⟨o1,o2,o3⟩:=hv ok
      have o3:h'.v ≤ 0:=o3
      cases ha
      have hb:=run_sliceBounds (P:=P) (w:=w) (isS:=true) (len:=0) (cap:=0) (lo:=vlo) (hi:=vhi) (mx:=none) (l:=l.v) (h:=h'.v) (m:=0) (.inl ⟨rfl,rfl⟩)
       (bound_hi hh hhi) (bound_spec hl hlo) o1 o2 (by omega) (Int.le_refl _)
      have e1:l.v.toNat = 0:=by omega
      have e2:h'.v.toNat = 0:=by omega
      refine Does.pure hH hp ?_ .nils
      rw [e1,e2] at hb
      simp only [Int.toNat_zero] at hb
      simp [Instr.sliceAt,run_und hu,Instr.slice,hb,sizeT_spec hs w]
  ·cases h
 ·cases h
end
end
end Go.Eng

/- FnArgon2Long: of all sizes and bytes: the package's long hash is the reference's, and readArgon says true. No condition but that the tables of package blake2b hold what the program's text lays in them, which the card ties. -/
import Derived.Test.YtineimjmnbjdlaaDoorZN
import Derived.Test.YtineimjmnbjdlaaDoorRows
import Derived.Test.YtineimjmnbjdlaaDoorCards
import Derived.Test.YtineimjmnbjdlaaDoorTie
import Derived.WalkKit
import Derived.ProofKit
import Derived.OpenShut
import Derived.SevenTiedAt
import Derived.Conc.Holds
import Derived.Conc.LeavingOf
set_option linter.unusedVariables false
set_option linter.unusedSectionVars false
set_option linter.unusedSimpArgs false
namespace Go.Proofs.YtineimjmnbjdlaaDoor
section
open Go.ChangeShapes Go.WideShapes Go.ChangeAt Go.RowKit
open Go.Eng Go.Conc
section
variable {m0:Machine}
theorem walk [RowAddr] {W0:World} (hL:laidMetH Tryd.prog laidR W0) (hmi:@AllMine (coMain Tryd.prog m0 36) W0) (N:Int) {v:Value} (l:Vec 8) (w1:letI:=coMain Tryd.prog m0 36;SlOk W0 v (Eng.Data.b8 l)) :
 @CallsJ (coMain Tryd.prog m0 36) Tryd.prog 3 #[.int .i64 N,v] W0 fun e W'=>e = .returned (.bool true) ∧ Still W0 W':=by
 letI:=coMain Tryd.prog m0 36
 have h6:SpecOk Tryd.prog noGlob 6 c6.spec:=c6_ok (c15_ok (c24_ok c36_ok) (show (15:Nat) ≠ 36 by decide)) keys_apart
 have hb:=goB_ok (specs3_ok h6) (no_loops specs3)
 have hx:∀ p ∈ [(v,Eng.Data.b8 l)],SlOk W0 p.1 p.2:=ss_cons w1 ss_nil
 obtain ⟨dec,cs,hrun,hcs⟩:=law3 l N
 refine law_runG hb [(v,Eng.Data.b8 l)] (fun g x hg=>?_) hmi hx hrun hcs fun β h=>LRel.cons (rel_int .i64 N) (LRel.cons (h 0 v _ rfl) (LRel.nil β))
 obtain ⟨q1,q2⟩:=glob_ok hL g x hg
 refine ⟨q1,fun i y hy=>?_⟩
 obtain ⟨u,e1,e2⟩:=q2 i y hy
 exact ⟨u,e1,e2,(by unfold gAt;split <;> rfl),.inl (hmi _ (cell_lt e1))⟩
end
theorem res3:Tryd.f3.results = #[.tmp 4]:=by kernel_rfl
theorem res_events {fn:Func} {t:Tmp} (h:fn.results = #[.tmp t]) (tmps:Array Value) (P:Program) (w:World):(results fn tmps).events P w #[] = #[]:=by
 simp [results,h]
theorem last_step {fr:Frame} {v:Value} {w:World} (hf:fr.fn = 3) (hm:fr.mode = .returning) (hd:fr.defers = []) (hk:fr.kind = .normal)
 (hr:(results Tryd.f3 fr.tmps).run Tryd.prog w = .ok v w):stepG Tryd.prog true (G fr []) w = .ended (.done v) w #[]:=by
 have he:=res_events res3 fr.tmps Tryd.prog w
 have h0:seen Tryd.prog fr.fn ((results Tryd.f3 fr.tmps).events Tryd.prog w #[]) = #[]:=by rw [he];rfl
 have hfn:Tryd.prog.funcs[fr.fn]? = some Tryd.f3:=by rw [hf];exact Tryd.func3
 have hi:¬ 2 = fr.fn:=by rw [hf];decide
 simp [G,stepG,unwind,doReturn,hm,hd,hk,hfn,hr,hi,GStep.after,h0]
theorem mine_all (g:Goroutine) (W:World) (F:FuncId):@AllMine (coMain Tryd.prog (solo g W) F) W:=fun c hc hb=>absurd hb.1 (Nat.not_le.2 hc)
theorem good_run {args:Array Value} {W:World} {Post:Value → World → Prop} (hP:∀ W',Still W W' → Post (.bool true) W')
 (h:@CallsJ (coMain Tryd.prog (solo (G (Frame.enter Tryd.prog 3 args .normal) []) W) 36) Tryd.prog 3 args W fun e W'=>e = .returned (.bool true) ∧ Still W W') :
 ∃ M last o w' t',runNT Tryd.prog (M + 1) (solo (G (Frame.enter Tryd.prog 3 args .normal) []) W) #[] = (.ended o w',t') ∧ runN Tryd.prog M (solo (G (Frame.enter Tryd.prog 3 args .normal) []) W) = .next last ∧
  step Tryd.prog last = .ended o w' ∧ Conc.Good Tryd.prog Post last o w' t':=by
 letI:=coMain Tryd.prog (solo (G (Frame.enter Tryd.prog 3 args .normal) []) W) 36
 have hm:=mine_all (G (Frame.enter Tryd.prog 3 args .normal) []) W 36
 refine ends (m0:=solo (G (Frame.enter Tryd.prog 3 args .normal) []) W) (F:=36) (h [] (AtFin Tryd.prog Post) fun v w' hR=>?_) (Frm.first _ _)
 obtain ⟨hv,hs⟩:=hR
 injection hv with hv
 subst hv
 intro fr hl
 refine .stop fun w₁ h₁=>⟨rfl,.bool true,#[],?_,rfl,hP _ ?_⟩
 ·obtain ⟨l1,l2,l3,l4,fn,l5,l6⟩:=hl
  obtain rfl:fn = Tryd.f3:=Option.some.inj (l5.symm.trans Tryd.func3)
  exact last_step l1 l2 l3 l4 (runQ_ok _ (l6 w₁ h₁)).1
 ·obtain ⟨s1,s2,s3,s4⟩:=hs
  exact ⟨h₁.os.trans s1,h₁.output.trans s2,Nat.le_trans s3 h₁.size,fun c hc=>(h₁.mine c (Nat.lt_of_lt_of_le hc s3) (hm c hc)).trans (s4 c hc)⟩
theorem own:ownKnob Tryd.prog.godebug = none:=by kernel_rfl
theorem laidOut:laidOutB Tryd.prog = true:=by kernel_rfl
theorem read3:Tryd.prog.readableRec 3 = true ∧ 3 < Tryd.prog.types.size:=⟨by kernel_rfl,of_decide_eq_true (by kernel_rfl)⟩
theorem read22:Tryd.prog.readableRec 22 = true ∧ 22 < Tryd.prog.types.size:=⟨by kernel_rfl,of_decide_eq_true (by kernel_rfl)⟩
set_option maxRecDepth 100000 in
theorem contract (H:Type) (enc:TypeId × Value → H) (W:World) (base:Nat) (args:Array Value) (ds gs:List (DataW H)) (before:List MemPlace)
 (hval:∀ (j:Nat) t v,Tryd.f3.params[j]? = some t → args[j]? = some v → Value.okWide Tryd.prog W .any base t v)
 (hL:laidMetH Tryd.prog laidR W)
 (hW:DataW.Whole enc Tryd.prog Tryd.f3.params.toList Rows.fnArgon2LongSpec.vars false W args.toList ds gs before) :
 ∃ M last o w' t',runNT Tryd.prog (M + 1) (solo (G (Frame.enter Tryd.prog 3 args .normal) []) W) #[] = (.ended o w',t') ∧ runN Tryd.prog M (solo (G (Frame.enter Tryd.prog 3 args .normal) []) W) = .next last ∧
  step Tryd.prog last = .ended o w' ∧ Conc.Good Tryd.prog (fun v W'=>Rows.fnArgon2LongSpec.post enc Tryd.prog Tryd.f3 false true false false W args v W') last o w' t':=by
 have hW':=hW
 obtain ⟨p,q,hA0,hV,rfl,hfz,hnd⟩:=hW
 have hA:DataW.TrodAll enc Tryd.prog W 0 (fun _=>true) true Tryd.f3.params.toList args.toList ds p:=hA0
 rw [Tryd.params3] at hA hval
 obtain ⟨v0,vs0,d0,ds0,p0,q0,hargs,rfl,rfl,h0,r0⟩:=trodAll_cons hA
 obtain ⟨v1,vs1,d1,ds1,p1,q1,rfl,rfl,rfl,h1,r1⟩:=trodAll_cons r0
 obtain ⟨rfl,rfl,rfl⟩:=trodAll_nil r1
 obtain rfl:args = #[v0,v1]:=by cases args;simp_all
 letI:RowAddr:=⟨fun _=>(0,0)⟩
 obtain ⟨n0,rfl,rfl,rfl,w0⟩:=open_int Tryd.underlying3 (hval 0 3 v0 rfl rfl) h0
 letI:=coMain Tryd.prog (solo (G (Frame.enter Tryd.prog 3 #[.int .i64 n0,v1] .normal) []) W) 36
 obtain ⟨l1,w1,m1⟩:=open_sl8 (mine_all _ W 36) Tryd.underlying22 Tryd.underlying5 c_5 (hval 1 22 v1 rfl rfl) h1
 refine good_run (fun W' hs=>?_) (walk hL (mine_all _ W 36) n0 l1 w1)
 exact post_of_still (tb:=4) hW' rfl rfl laidOut (by
  intro t ht
  rw [Tryd.params3] at ht
  have:t = 3 ∨ t = 22:=by simpa using ht
  rcases this with rfl | rfl
  ·exact read3
  ·exact read22) (by kernel_rfl) Tryd.underlying4 hs
set_option maxRecDepth 100000 in
theorem lifted (os:Os) (started:os.Started) (H:Type) (enc:TypeId × Value → H) :
 ReturnsInLeavingWide {} Tryd.checked os 3 .any (fun w args=>(Rows.fnArgon2LongSpec.pre enc Tryd.prog Tryd.f3 [] false w args ∧ laidMetH Tryd.prog laidR w) ∧ sizedMet enc Tryd.prog Tryd.f3 (OpenSpec.ofChange Rows.fnArgon2LongSpec) false w args)
  (Rows.fnArgon2LongSpec.post enc Tryd.prog Tryd.f3 false true false false):=by
 refine returnsInLeavingWide_of_good (C:=Tryd.checked) own started
  (ChangeSpec.witness_shaped (enc:=enc) (C:=Tryd.checked) (os:=os) (X:=fun w _=>laidMetH Tryd.prog laidR w) false (laidWorld os) #[.int .i64 0,.slice none 0 0] 8 rfl (World.shaped_of_RefB (by kernel_rfl) (by kernel_rfl)) (by kernel_rfl) (by kernel_rfl) (by kernel_rfl) (laidWorld_met os _)) ?_
 intro w tape i _ _ _ hok hpre _
 obtain ⟨_,_,_,fn',hfn',_,_,_,_,hval⟩:=hok
 have e:fn' = Tryd.f3:=Option.some.inj (hfn'.symm.trans Tryd.func3)
 subst e
 obtain ⟨⟨⟨ds,gs,before,hw,hc⟩,hx⟩,hz⟩:=hpre
 have hw':=DataW.Whole.of_heap (w':=w.forCall tape i) (by rfl) hw
 obtain ⟨M,last,o,w',t',h1,h2,h3,h4⟩:=contract H enc (w.forCall tape i) w.heap.size i.args ds gs before hval (hx.of_heap (by rfl)) hw'
 exact ⟨M,last,o,w',t',h1,h2,h3,h4.mono fun v hp=>ChangeSpec.post_blind hp⟩
theorem holds:Rows.FnArgon2LongSaid:=
 OpenClaim.holds_of_wide_leaving 3 Tryd.f3 rfl rfl rfl rfl rfl rfl rfl ⟨rfl,rfl,rfl,rfl,rfl⟩ rfl rfl rfl rfl rfl (by kernel_rfl) Tryd.func3 (by kernel_rfl)
  (of_decide_eq_true (by kernel_rfl)) (by unfold Func.isWrapper;first | (rw [if_pos (by decide +kernel)];kernel_rfl) | (rw [if_neg (by decide +kernel)];exact ⟨rfl,rfl⟩))
  (fun os started H enc _=>lifted os started H enc)
theorem card_holds:Rows.FnArgon2LongCardSaid:=by
 have hl:∀ f fn,Tryd.prog.funcNamed "pub-wardkeep/laws.FnArgon2Long" = some f → Tryd.prog.funcs[f]? = some fn → false = Tryd.prog.looks [] ∧ ∀ (j:Nat) t,fn.params[j]? = some t → Tryd.prog.wantsStandIn t = false:=fun f fn hf hfn=>by
  obtain rfl:f = 3:=Option.some.inj ((show Tryd.prog.funcNamed "pub-wardkeep/laws.FnArgon2Long" = some 3 by kernel_rfl).symm.trans hf) |>.symm
  obtain rfl:fn = Tryd.f3:=(Option.some.inj (Tryd.func3.symm.trans hfn)).symm
  exact ⟨by kernel_rfl,fun j t ht=>by
   rw [Tryd.params3] at ht
   have h3:t = 3 ∨ t = 22:=by
    rcases j with _ | _ | j
    ·left;simpa using ht.symm
    ·right;simpa using ht.symm
    ·simp at ht
   rcases h3 with rfl | rfl
   ·exact (show Tryd.prog.wantsStandIn 3 = false by kernel_rfl)
   ·exact (show Tryd.prog.wantsStandIn 22 = false by kernel_rfl)⟩
 have hn:=Claim7.tied_new_at .later [.sentinel,.sentinel,.data,.data] true (Claim7.new_of_sixth holds (true,"a376baf0e985b1e0bc4c86f682516aaffaf348d77de1c1b6d93165364309aef8") false rfl ⟨rfl,rfl⟩ (by kernel_rfl) (by kernel_rfl) hl) (by kernel_rfl)
 exact ⟨hn,(fun _ h=>by cases h),fnArgon2Long_row_tie,(fun h=>by cases h),by kernel_rfl⟩
end
end Go.Proofs.YtineimjmnbjdlaaDoor

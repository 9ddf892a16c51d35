/- An interpreter of the model's code over abstract values, proved sound, and a walk in company by it: part of the proof of FnArgon2Start. No condition. -/
import Derived.Test.YtineimjmnbjdlaaDoorYC
import Derived.Laws.Sem
import Derived.OpenShut
import Derived.WideKeyArgs
import Derived.ChangeSlices
import Derived.RowKit3
import Derived.Test.YtineimjmnbjdlaaDoorProg
import Derived.KernelRfl
set_option linter.unusedVariables false
set_option linter.unusedSectionVars false
set_option linter.unusedSimpArgs false
namespace Go.Eng
section
variable [RowAddr] [Co]
open Region
theorem elemN_iff (t:Nat):∀ l:List Nat,elemN t l = true ↔ t ∈ l
 | []=>by simp [elemN]
 | x :: r=>by
  simp only [elemN]
  cases h:Nat.beq x t with
  | true=>have:x = t:=by simpa using h
          simp [this]
  | false=>
   have:x ≠ t:=by intro e;subst e;simp at h
   simp only [List.mem_cons,elemN_iff t r]
   constructor
   ·exact .inr
   ·rintro (e | h)
    ·exact absurd e.symm this
    ·exact h
theorem read_alive {C:Cfg} {call:CallF} {ev:Operand → AV} {op:Op} {b:Nat} {S S':St} {x:AV} (hr:readOf C.P ev op = some b) (h:opE C call ev op S = some (x,S')) :
 ∃ k,lget b S.H = some k ∧ k.mode ≠ .dead:=by
 have key:∀ d,S.read b = some d → ∃ k,lget b S.H = some k ∧ k.mode ≠ .dead:=by
  intro d hd
  unfold St.read at hd
  split at hd
  ·rename_i d' m hb
   refine ⟨_,hb,?_⟩
   intro e
   simp only at e
   subst e
   cases hd
  ·cases hd
 have hblk:∀ v,blkOf v = some b → ∃ o,v = .ref (.ptr b o):=by
  intro v hv
  unfold blkOf at hv
  split at hv
  ·injection hv with hv;subst hv;exact ⟨_,rfl⟩
  ·cases hv
 cases op <;> simp only [readOf,reduceCtorEq] at hr
 case convert s d x=>
  split at hr
  case h_2=>cases hr
  rename_i hb
  obtain ⟨o,l,c,hv⟩:∃ o l c,ev x = .ref (.sl b o l c):=by
   unfold slOf at hr
   split at hr
   ·injection hr with hr;subst hr;exact ⟨_,_,_,by assumption⟩
   ·cases hr
  simp only [opE,opF,convE,hv] at h
  split at h
  ·cases h
  split at h
  ·simp [convNum] at h
  ·unfold convSl at h
   rw [hb] at h
   simp only at h
   split at h
   ·cases l with
    | s z=>cases h
    | c n=>
     cases n with
     | zero=>cases h
     | succ n=>
      simp only at h
      split at h
      ·rename_i hl
       exact ⟨_,hl,by intro e;cases e⟩
      ·cases h
   ·cases h
  ·cases h
 case load t a=>
  obtain ⟨o,ha⟩:=hblk _ hr
  simp only [opE,opF,ha,loadOp] at h
  split at h
  ·cases h
  ·split at h
   ·split at h
    ·rename_i l hl
     simp only [readCells] at hl
     split at hl
     ·exact key _ (by assumption)
     ·cases hl
    ·cases h
   ·cases h
  ·simp only [readCell] at h
   split at h
   ·exact key _ (by assumption)
   ·cases h
 case slice t a lo hi mx=>
  split at hr
  case h_2=>cases hr
  rename_i harr
  obtain ⟨o,ha⟩:=hblk _ hr
  simp only [opE,opF,ha,sliceOp] at h
  unfold isArr at harr
  split at harr
  case h_2=>cases harr
  rename_i n e hu
  simp only [hu] at h
  split at h
  ·cases h
  ·unfold sliceArr at h
   repeat' (split at h)
   all_goals first
    | (cases h;done)
    | exact key _ (by assumption)
  ·cases h
theorem store_same {C:Cfg} {call:CallF} {ev:Operand → AV} {op:Op} {c:Nat} {S S':St} {x:AV} (hs:storeBlk ev op = some c) (h:opE C call ev op S = some (x,S')):∀ b,b ≠ c → lget b S'.H = lget b S.H:=by
 intro b hb
 cases op <;> simp only [storeBlk,reduceCtorEq] at hs
 rename_i t a v
 have ha:∃ o,ev a = .ref (.ptr c o):=by
  unfold blkOf at hs
  split at hs
  ·rename_i o he;injection hs with hs;subst hs;exact ⟨_,he⟩
  ·cases hs
 obtain ⟨o,ha⟩:=ha
 dsimp only [opE,opF] at h
 unfold storeE at h
 split at h
 case h_2=>cases h
 rename_i S1 h1
 simp only [Option.some.injEq,Prod.mk.injEq] at h
 obtain ⟨_,rfl⟩:=h
 rw [ha] at h1
 have key:∀ {T T':St} {d:Data},Pure S T → T.write c d = some T' → lget b T'.H = lget b S.H:=by
  intro T T' d hp hw
  obtain ⟨d0,_,h2,_⟩:=St.write_spec hw
  rw [h2,lget_eq,lget_eq,List.getElem?_set_ne (Ne.symm hb),hp.H]
 simp only [storeOp] at h1
 repeat' (split at h1)
 all_goals first
  | (cases h1;done)
  | exact key (Data.over_spec ‹Data.over _ _ _ _ = some _›).1 h1
  | exact key (Data.set_spec ‹Data.set _ _ _ _ = some _›).1 h1
theorem skip8_len:∀ (l pre r:List AV),skip8 l = (pre,r) → l = pre ++ r
 | [],pre,r,h=>by simp only [skip8,Prod.mk.injEq] at h;obtain ⟨rfl,rfl⟩:=h;rfl
 | x :: l,pre,r,h=>by
  simp only [skip8] at h
  split at h
  ·simp only [Prod.mk.injEq] at h;obtain ⟨rfl,rfl⟩:=h;rfl
  ·generalize hq:skip8 l = q at h
   obtain ⟨a,c⟩:=q
   simp only [Prod.mk.injEq] at h;obtain ⟨rfl,rfl⟩:=h
   rw [skip8_len l a c hq];rfl
theorem take8_len:∀ (l:List AV) (ws:List (BitVec 8)) (r:List AV),take8 l = (ws,r) → ∃ u,l = u ++ r ∧ u.length = ws.length
 | [],ws,r,h=>by simp only [take8,Prod.mk.injEq] at h;obtain ⟨rfl,rfl⟩:=h;exact ⟨[],rfl,rfl⟩
 | x :: l,ws,r,h=>by
  simp only [take8] at h
  split at h
  ·generalize hq:take8 l = q at h
   obtain ⟨a,c⟩:=q
   simp only [Prod.mk.injEq] at h;obtain ⟨rfl,rfl⟩:=h
   obtain ⟨u,hu,hl⟩:=take8_len l a c hq
   exact ⟨x :: u,by rw [hu];rfl,by simp [hl]⟩
  ·simp only [Prod.mk.injEq] at h;obtain ⟨rfl,rfl⟩:=h;exact ⟨[],rfl,rfl⟩
theorem sub0_s {d d':Data} {o:N} {n:Nat} {S S':St} (h:d.sub0 o (.s n) S = some (d',S')):∀ l,d' ≠ .gen l:=by
 intro l e
 subst e
 cases d <;> simp only [Data.sub0] at h <;> (try cases o) <;> simp at h
theorem sub_sg {d d':Data} {o:N} {n:Nat} {S S':St} (h:d.sub o (.s n) S = some (d',S')):∀ l,d' ≠ .gen l:=by
 unfold Data.sub at h
 split at h
 ·rename_i hr
  injection h with h;subst h
  exact sub0_s hr
 ·split at h
  ·exact sub0_s h
  ·unfold Data.sub1 at h
   split at h
   ·simp only [Option.some.injEq,Prod.mk.injEq] at h;obtain ⟨rfl,_⟩:=h;intro l e;cases e
   ·cases h
theorem lput_nil {α:Type}:∀ (o:Nat) (l l':List α),lput [] o l = some l' → l' = l
 | 0,l,l',h=>by
  simp only [lput] at h
  have e:Nat.ble ([]:List α).length l.length = true:=Nat.ble_eq_true_of_le (Nat.zero_le _)
  rw [e] at h
  simp only [Option.some.injEq,List.length_nil,List.drop_zero,List.nil_append] at h
  exact h.symm
 | o + 1,[],l',h=>by simp [lput] at h
 | o + 1,x :: r,l',h=>by
  simp only [lput] at h
  split at h
  ·rename_i r' hr
   injection h with h
   subst h
   rw [lput_nil o r r' hr]
  ·cases h
theorem copySpan_inv {ev:Operand → AV} {op:Op} {c p q:Nat} {S:St} (hs:copySpan ev op S = some (c,p,q)) :
 ∃ cc d xx o1 l1 c1 l m pre r ws post,op = .call cc ∧ cc.callee = .builtin .copy ∧ cc.args.toList = [d,xx] ∧ ev d = .ref (.sl c o1 l1 c1) ∧ vague (ev xx) = true ∧
  lget c S.H = some ⟨.gen l,m⟩ ∧ (Data.gen l).words = none ∧ skip8 l = (pre,r) ∧ take8 r = (ws,post) ∧ p = pre.length ∧ q = pre.length + ws.length:=by
 unfold copySpan at hs
 split at hs
 case h_2=>cases hs
 rename_i cc
 split at hs
 case h_2=>cases hs
 rename_i bi hbi
 split at hs
 case h_2=>cases hs
 split at hs
 case h_2=>cases hs
 rename_i d xx hargs
 split at hs
 case h_2=>cases hs
 rename_i b o1 l1 c1 hd
 split at hs
 case h_2=>cases hs
 rename_i hx
 split at hs
 case h_2=>cases hs
 rename_i l m hl
 split at hs
 ·cases hs
 rename_i hw
 generalize hsk:skip8 l = sk at hs
 obtain ⟨pre,r⟩:=sk
 simp only at hs
 generalize hta:take8 r = ta at hs
 obtain ⟨ws,post⟩:=ta
 simp only [Option.some.injEq,Prod.mk.injEq] at hs
 obtain ⟨rfl,rfl,rfl⟩:=hs
 exact ⟨cc,d,xx,o1,l1,c1,l,m,pre,r,ws,post,rfl,hbi,hargs,hd,hx,hl,hw,hsk,hta,rfl,rfl⟩
theorem copy_span {C:Cfg} {call:CallF} {ev:Operand → AV} {op:Op} {b p q:Nat} {S S':St} {x:AV} (hs:copySpan ev op S = some (b,p,q)) (h:opE C call ev op S = some (x,S')) :
 (∀ c,c ≠ b → lget c S'.H = lget c S.H) ∧ ∀ o,¬ (p ≤ o ∧ o < q) → cellOf o (lget b S'.H) = cellOf o (lget b S.H):=by
 obtain ⟨cc,d,xx,o1,l1,c1,l,m,pre,r,ws,post,rfl,hbi,hargs,hd,hx,hl,hw,hsk,hta,rfl,rfl⟩:=copySpan_inv hs
 obtain ⟨u,hu,hul⟩:=take8_len _ _ _ hta
 have hpre:=skip8_len _ _ _ hsk
 have hmid:(Data.gen l).mid = some ⟨pre,Vec.of ws,post⟩:=by
  simp only [Data.mid,hsk,hta]
 simp only [opE,opF,callE,hbi,isBuiltin,callBE,builtinE,hargs,evL,hd,copyOp] at h
 split at h
 case h_2=>cases h
 split at h
 case h_2=>cases h
 have hl1:lenN (.ref (.sl b o1 l1 c1)) = some l1:=rfl
 simp only [hl1] at h
 split at h
 ·cases h
 rename_i nm hnm
 split at h
 ·cases h
 rename_i xs S1 hxs
 have hng:∀ g,xs = .gen g → g = []:=by
  intro g hg
  generalize ev xx = vx at hx hnm hxs
  unfold vague at hx
  split at hx
  ·rename_i b2 o2 n2 c2
   simp only [lenN,Option.some.injEq] at hnm
   subst hnm
   simp only [dataOf] at hxs
   split at hxs
   ·have hmin:∃ k,(N.s n2).min l1 = .s k:=by cases l1 <;> exact ⟨_,rfl⟩
    obtain ⟨k,hk⟩:=hmin
    rw [hk] at hxs
    exact absurd hg (sub_sg hxs g)
   ·cases hxs
  ·simp only [dataOf,Option.some.injEq,Prod.mk.injEq] at hxs
   obtain ⟨e,_⟩:=hxs
   rw [← e] at hg
   injection hg with hg
   exact hg.symm
  ·cases hx
 have hp1:=dataOf_pure hxs
 split at h
 ·cases h
 split at h
 ·cases h
 rename_i dd hdd
 have hdd':dd = .gen l:=by
  unfold St.read at hdd
  rw [hp1.H,hl] at hdd
  simp only at hdd
  split at hdd
  ·cases hdd
  ·injection hdd with hdd;exact hdd.symm
 subst hdd'
 split at h
 case h_2=>cases h
 rename_i d' S2 hov
 split at h
 case h_2=>cases h
 rename_i S3 hw3
 simp only [Option.some.injEq,Prod.mk.injEq] at h
 obtain ⟨_,rfl⟩:=h
 have hp2:=(Data.over_spec hov).1
 obtain ⟨d0,w1,w2,_⟩:=St.write_spec hw3
 refine ⟨fun b hb=>by rw [w2,lget_eq,lget_eq,List.getElem?_set_ne (Ne.symm hb),hp2.H,hp1.H],fun o ho=>?_⟩
 have hd':∃ y:List AV,y.length = ws.length ∧ d' = .gen (pre ++ (y ++ post)):=by
  unfold Data.over at hov
  split at hov
  ·rename_i r hr
   injection hov with hov
   subst hov
   cases o1 with
   | c o1=>
    cases xs with
    | gen g=>
     have hg:=hng g rfl
     subst hg
     simp only [Data.over0,Option.map_eq_some_iff,Prod.mk.injEq] at hr
     obtain ⟨l',hl',rfl,_⟩:=hr
     have e:=lput_nil _ _ _ hl'
     subst e
     exact ⟨u,hul,by rw [hpre,hu]⟩
    | _=>simp [Data.over0,Data.as8] at hr
   | s o1=>simp [Data.over0] at hr
  ·rw [hw] at hov
   simp only [Data.over1,hmid] at hov
   split at hov
   ·simp only [Option.some.injEq,Prod.mk.injEq,Mid.put] at hov
    obtain ⟨rfl,_⟩:=hov
    refine ⟨_,?_,rfl⟩
    show ((List.range (Vec.of ws).n).map _).length = ws.length
    rw [List.length_map,List.length_range]
    rfl
   ·cases hov
 obtain ⟨y,hy,rfl⟩:=hd'
 have hb1:lget b S.H = some ⟨.gen l,m⟩:=hl
 have hlt:b < S2.H.length:=by rw [hp2.H,hp1.H];exact lget_lt hb1
 have hlw:(S2.H.set b ⟨.gen (pre ++ (y ++ post)),.own⟩)[b]? = some ⟨.gen (pre ++ (y ++ post)),.own⟩:=List.getElem?_set_self hlt
 have hm:m = .own:=by
  rw [hp2.H,hp1.H,← lget_eq,hb1] at w1
  injection w1 with w1
  injection w1
 subst hm
 have e1:lget b S3.H = some ⟨.gen (pre ++ (y ++ post)),.own⟩:=by rw [w2,lget_eq];exact hlw
 have hsame:lget o (pre ++ (y ++ post)) = lget o l:=by
  rw [lget_eq,lget_eq,hpre,hu]
  rcases Nat.lt_or_ge o pre.length with h1 | h1
  ·rw [List.getElem?_append_left h1,List.getElem?_append_left h1]
  ·rw [List.getElem?_append_right h1,List.getElem?_append_right h1]
   have h2:ws.length ≤ o - pre.length:=by omega
   rw [List.getElem?_append_right (by omega),List.getElem?_append_right (by omega),hy,hul]
 rw [e1,hb1]
 simp only [cellOf,hsame]
theorem readsP_of {P:Program} {ev:Operand → AV} {op:Op} {b:Nat} (h:readOf P ev op = some b):readsP P op = true:=by
 cases op <;> simp only [readOf,reduceCtorEq] at h
 case load=>rfl
 case slice=>
  split at h
  ·assumption
  ·cases h
 case convert=>
  split at h
  ·assumption
  ·cases h
theorem isRead_of {op:Op} {P:Program} {ev:Operand → AV} {b:Nat} (h:readOf P ev op = some b):isRead op = true:=by
 cases op <;> simp only [readOf,reduceCtorEq] at h
 case load=>rfl
 case slice=>rfl
 case convert=>
  split at h
  ·assumption
  ·cases h
theorem read_not_eff {op:Op} (h:isRead op = true):isEff op = false ∧ isFloat op = false:=by cases op <;> simp_all [isRead,isEff,isFloat]
theorem guardOk_congr {ops:Array Oper} {o:Oper} {ev ev':Operand → AV} (h:∀ t ∈ Oper.looksAt ops o,ev (.tmp t) = ev' (.tmp t)) (S:St):guardOk ops.toList ev o.guard S = guardOk ops.toList ev' o.guard S:=by
 unfold guardOk
 cases hg:o.guard with
 | none=>rfl
 | some gw=>
  obtain ⟨j,want⟩:=gw
  simp only [lget_eq]
  cases hj:ops.toList[j]? with
  | none=>rfl
  | some o'=>
   simp only
   cases hd:o'.dst with
   | none=>rfl
   | some d=>
    simp only
    rw [h d (by
     have:ops[j]? = some o':=by simpa using hj
     simp [Oper.looksAt,hg,this,hd])]
theorem guard_spec' {β:Map} {a:Act} {ev:Operand → AV} (hev:∀ x,VRel β (ev x) (a.eval x)) {ops:Array Oper} {o:Oper} {S S':St} {b:Bool} (h:guardOk ops.toList ev o.guard S = some (b,S')) :
 S'.ok → Region.wanted o (yielded ops a.tmps) = b:=by
 unfold guardOk at h
 split at h
 ·rename_i hg
  simp only [Option.some.injEq,Prod.mk.injEq] at h
  obtain ⟨rfl,rfl⟩:=h
  exact fun _=>by simp [Region.wanted,hg]
 ·rename_i j want hg
  rw [lget_eq] at h
  cases hj:ops.toList[j]? with
  | none=>simp [hj] at h
  | some o'=>
   simp only [hj] at h
   split at h
   ·cases h
   rename_i d hd
   split at h
   case h_3=>cases h
   case h_2=>
    rename_i hbb
    simp only [Option.some.injEq,Prod.mk.injEq] at h
    obtain ⟨rfl,rfl⟩:=h
    refine fun _=>?_
    have hval:=hev (.tmp d)
    rw [hbb] at hval
    have e:=hval.tup0_inv
    simp only [Act.eval] at e
    have hj':ops[j]? = some o':=by simpa using hj
    have hy:yielded ops a.tmps j = none:=by
     rcases Nat.lt_or_ge d a.tmps.size with hlt | hlt
     ·have e2:a.tmps[d]? = some (.tuple #[]):=by
       simp only [Array.getD_eq_getD_getElem?,Array.getElem?_eq_getElem hlt,Option.getD_some] at e
       rw [Array.getElem?_eq_getElem hlt,e]
      simp [yielded,hj',hd,e2]
     ·simp [yielded,hj',hd,Array.getElem?_eq_none hlt]
    simp [Region.wanted,hg,hy]
   rename_i bb hbb
   split at h
   case h_2=>cases h
   rename_i t S1 ht
   simp only [Option.some.injEq,Prod.mk.injEq] at h
   obtain ⟨rfl,rfl⟩:=h
   obtain ⟨hp,hv⟩:=B.test_spec ht
   refine fun ok=>?_
   have hval:=hev (.tmp d)
   rw [hbb] at hval
   have e:=hval.bool_inv
   simp only [Act.eval] at e
   have hlt:d < a.tmps.size:=by
    rcases Nat.lt_or_ge d a.tmps.size with h | h
    ·exact h
    ·simp [Array.getD_eq_getD_getElem?,Array.getElem?_eq_none h,undef] at e
   have e2:a.tmps[d]? = some (.bool bb.v):=by
    simp only [Array.getD_eq_getD_getElem?,Array.getElem?_eq_getElem hlt,Option.getD_some] at e
    rw [Array.getElem?_eq_getElem hlt,e]
   have hj':ops[j]? = some o':=by simpa using hj
   have hy:yielded ops a.tmps j = some bb.v:=by
    simp [yielded,hj',hd,e2]
   simp [Region.wanted,hg,hy,hv ok]
namespace Tr
variable {C:Cfg} {call:CallF} {nv nt:Nat} {dyn:Bool} {ops:Array Oper} {base:Nat} {tr:Nat → Fr × St} {evs:Nat → Option Ev}
def ChF (ops:Array Oper) (t k:Nat):Prop:=∃ o,ops[k]? = some o ∧ o.dst = some t
def Ord (ops:Array Oper) (i:Nat) (Ch:Nat → Prop):Prop:=∀ k,k < ops.size → Ch k → k ≠ i → (k < i → bef ops i k) ∧ (i < k → bef ops k i)
structure Ready (ops:Array Oper) (D:Nat → Prop) (i:Nat) (o:Oper):Prop where
 cl:Closed ops D
 not:¬ D i
 get:ops[i]? = some o
 pre:∀ e ∈ o.after,binds .any e = true → D e.on
theorem Ready.later {D:Nat → Prop} {i:Nat} {o:Oper} (R:Ready ops D i o) {k:Nat} (hk:k < ops.size) (h:bef ops k i):¬ D k:=fun hD=>
 R.not (bef_spec R.cl k i _ (Array.getElem?_eq_getElem hk) h fun e he hb=>R.cl k _ (Array.getElem?_eq_getElem hk) hD e he hb)
theorem Ready.iff {D:Nat → Prop} {i:Nat} {o:Oper} (R:Ready ops D i o) {Ch:Nat → Prop} (h:Ord ops i Ch):∀ k,k < ops.size → Ch k → (D k ↔ k < i):=by
 intro k hk hc
 rcases Nat.lt_trichotomy k i with h1 | h1 | h1
 ·exact ⟨fun _=>h1,fun _=>bef_spec R.cl i k o R.get ((h k hk hc (by omega)).1 h1) R.pre⟩
 ·subst h1;exact ⟨fun hD=>absurd hD R.not,fun h=>absurd h (Nat.lt_irrefl _)⟩
 ·exact ⟨fun hD=>absurd hD (R.later hk ((h k hk hc (by omega)).2 h1)),fun h=>by omega⟩
theorem Ready.closed {D:Nat → Prop} {i:Nat} {o:Oper} (R:Ready ops D i o):Closed ops (fun k=>D k ∨ k = i):=by
 intro k o' ho hk e he hb
 rcases hk with hk | rfl
 ·exact .inl (R.cl k o' ho hk e he hb)
 ·rw [R.get] at ho;injection ho with ho;subst ho;exact .inl (R.pre e he hb)
variable (T:Tr C call nv nt dyn ops base tr evs)
include T
theorem pair_names {k j:Nat} {a b:Oper} (hkj:k < j) (ha:ops[k]? = some a) (hb:ops[j]? = some b) :
 bef ops j k ∨ ((∀ t,a.dst = some t → t ∉ Oper.looksAt ops b) ∧ (∀ t,b.dst = some t → t ∉ Oper.looksAt ops a) ∧ ∀ t,a.dst = some t → b.dst ≠ some t):=by
 refine (regOk_pair T.reg hkj ha hb).imp id fun h1=>?_
 simp only [pairW,Bool.and_eq_true,Bool.not_eq_true'] at h1
 obtain ⟨⟨⟨⟨⟨h1,h2⟩,h3⟩,_⟩,_⟩,_⟩:=h1
 refine ⟨fun t ht hm=>?_,fun t ht hm=>?_,fun t ht ht'=>?_⟩
 ·rw [ht] at h1;simp only [dstIn] at h1
  rw [(elemN_iff _ _).2 hm] at h1;cases h1
 ·rw [ht] at h2;simp only [dstIn] at h2
  rw [(elemN_iff _ _).2 hm] at h2;cases h2
 ·rw [ht,ht'] at h3;simp [dstEq] at h3
theorem ord_looks {i:Nat} {o:Oper} (hi:ops[i]? = some o) {t:Nat} (ht:t ∈ Oper.looksAt ops o):Ord ops i (ChF ops t):=by
 intro k hk ⟨o',ho',hd⟩ hne
 refine ⟨fun h=>?_,fun h=>?_⟩
 ·rcases T.pair_names h ho' hi with h1 | ⟨h1,_⟩
  ·exact h1
  ·exact absurd ht (h1 t hd)
 ·rcases T.pair_names h hi ho' with h1 | ⟨_,h1,_⟩
  ·exact h1
  ·exact absurd ht (h1 t hd)
theorem ord_dst {i:Nat} {o:Oper} (hi:ops[i]? = some o) {t:Nat} (ht:o.dst = some t):Ord ops i (ChF ops t):=by
 intro k hk ⟨o',ho',hd⟩ hne
 refine ⟨fun h=>?_,fun h=>?_⟩
 ·rcases T.pair_names h ho' hi with h1 | ⟨_,_,h1⟩
  ·exact h1
  ·exact absurd ht (h1 t hd)
 ·rcases T.pair_names h hi ho' with h1 | ⟨_,_,h1⟩
  ·exact h1
  ·exact absurd hd (h1 t ht)
theorem frame_same {t k:Nat} (hk:¬ ChF ops t k) (hlt:k < ops.size):(tr (k + 1)).1.get nv t = (tr k).1.get nv t:=by
 have ho:=Array.getElem?_eq_getElem hlt
 have key:∀ v,((tr k).1.put nv ops[k].dst v).get nv t = (tr k).1.get nv t:=by
  intro v
  cases hd:ops[k].dst with
  | none=>rfl
  | some d=>exact Fr.get_put_ne nv _ v (fun e=>hk ⟨ops[k],ho,by rw [hd,e]⟩)
 obtain ⟨b,S1,hg,hp,h | h | h⟩:=stepW_inv (T.step k _ ho)
 ·rw [h.2.1];exact key _
 ·obtain ⟨_,_,v,_,h⟩:=h;rw [h];exact key _
 ·obtain ⟨_,_,v,S2,_,_,h,_⟩:=h;rw [h];exact key _
theorem ord_read {i:Nat} {o:Oper} (hi:ops[i]? = some o) {S1 S2:St} {v:AV} {b:Nat} (hp:Pure (tr i).2 S1) (hnc:cellRead C.P ((tr i).1.ev nv) o.op S1 = none) (hr:readOf C.P ((tr i).1.ev nv) o.op = some b)
 (hop:opE C call ((tr i).1.ev nv) o.op (lowB dyn S1) = some (v,S2)) (he:evs i = evOf C.P dyn ((tr i).1.ev nv) o.op S1 S2):Ord ops i (Ch tr b):=by
 have hlt:=(Array.getElem?_eq_some_iff.1 hi).1
 have hrd:=readsP_of hr
 obtain ⟨hne,hnf⟩:=read_not_eff (isRead_of hr)
 intro k hk hc hki
 have hok:=Array.getElem?_eq_getElem hk
 have hclash:dyn = true → isEff ops[k].op = true → ∃ e,evs k = some e ∧ hits b e = true ∧ isLd e = false:=by
  intro hd heff
  obtain ⟨_,h1 | ⟨hf,_⟩ | ⟨_,_,v',T1,T2,hp',ho',h1,hx,he'⟩⟩:=T.step_kinds hok
  ·exact absurd (by rw [h1]) hc
  ·rw [float_not_eff hf] at heff;cases heff
  ·cases hsb:storeBlk ((tr k).1.ev nv) ops[k].op with
   | some c=>
    refine ⟨.one c,by rw [he'];simp [evOf,hd,heff,hsb],?_,rfl⟩
    have:=store_same hsb ho'
    by_cases e:c = b
    ·simp [hits,e]
    ·exact absurd (by rw [h1,this b (Ne.symm e),lowB_H,hp'.H]) hc
   | none=>
    cases hcs:copySpan ((tr k).1.ev nv) ops[k].op T1 with
    | some t=>
     obtain ⟨c,p,q⟩:=t
     refine ⟨.span c p q,by rw [he'];simp [evOf,hd,heff,hsb,hcs],?_,rfl⟩
     have hcs':copySpan ((tr k).1.ev nv) ops[k].op (lowB dyn T1) = some (c,p,q):=by rw [← hcs];unfold copySpan;rw [lowB_H]
     have:=(copy_span hcs' ho').1
     by_cases e:c = b
     ·simp [hits,e]
     ·exact absurd (by rw [h1,this b (Ne.symm e),lowB_H,hp'.H]) hc
    | none=>
    refine ⟨.eff (Nat.min T2.low T1.H.length),by rw [he'];simp [evOf,hd,heff,hsb,hcs],?_,rfl⟩
    simp only [hits]
    refine Nat.ble_eq_true_of_le (Nat.le_of_not_lt fun hl=>hc ?_)
    have hl1:b < T2.low:=Nat.lt_of_lt_of_le hl (Nat.min_le_left _ _)
    have hl2:b < T1.H.length:=Nat.lt_of_lt_of_le hl (Nat.min_le_right _ _)
    have:=hx.same b (by rw [lowB_H];exact hl2) hl1
    rw [lowB_H,hp'.H] at this
    rw [h1];exact this
 have hei:dyn = true → evs i = some (.load b):=by
  intro hd;rw [he];simp [evOf,hd,hne,hr,hnc]
 refine ⟨fun h=>?_,fun h=>?_⟩
 ·rcases regOk_pair T.reg h hok hi with h1 | h1
  ·exact h1
  ·simp only [pairW,Bool.and_eq_true,Bool.not_eq_true',Bool.and_eq_false_iff,Bool.or_eq_false_iff,Bool.or_eq_true] at h1
   obtain ⟨⟨⟨_,h3⟩,h4⟩,h5⟩:=h1
   rcases T.ch_kind hok hc with a | ⟨a,_⟩
   ·rcases h5 with h5 | ⟨_,h5⟩
    ·obtain ⟨e,h6,h7,h8⟩:=hclash h5 a
     have:=T.evs k i _ _ h hlt h6 (hei h5)
     refine (befOf_eq ops i k).1 ?_
     cases e with
     | load c=>cases h8
     | cell c d=>cases h8
     | eff l=>simpa [clash1,h7] using this
     | one c=>simpa [clash1,h7] using this
     | span c p q=>simpa [clash1,h7] using this
    ·rcases h5 with h5 | h5
     ·rw [a] at h5;cases h5
     ·rw [hrd] at h5;cases h5
   ·rcases h4 with h4 | ⟨_,h4⟩
    ·rw [a] at h4;cases h4
    ·rw [hrd] at h4;cases h4
 ·rcases regOk_pair T.reg h hi hok with h1 | h1
  ·exact h1
  ·simp only [pairW,Bool.and_eq_true,Bool.not_eq_true',Bool.and_eq_false_iff,Bool.or_eq_false_iff,Bool.or_eq_true] at h1
   obtain ⟨_,h5⟩:=h1
   rcases T.ch_kind hok hc with a | ⟨a,e⟩
   ·rcases h5 with h5 | ⟨h5,_⟩
    ·obtain ⟨e,h6,h7,h8⟩:=hclash h5 a
     have:=T.evs i k _ _ h hk (hei h5) h6
     refine (befOf_eq ops k i).1 ?_
     simpa [clash1,h7] using this
    ·rcases h5 with h5 | h5
     ·rw [hrd] at h5;cases h5
     ·rw [a] at h5;cases h5
   ·exfalso
    subst e
    obtain ⟨kk,h1,h2⟩:=read_alive hr hop
    rw [lowB_H,hp.H,T.early hok a i (by omega)] at h1
    injection h1 with h1;subst h1;exact h2 rfl
def ChC (tr:Nat → Fr × St) (b o k:Nat):Prop:=cellOf o (lget b (tr (k + 1)).2.H) ≠ cellOf o (lget b (tr k).2.H)
omit T in
theorem ChC.ch {b o k:Nat} (h:ChC tr b o k):Ch tr b k:=fun e=>h (by rw [e])
theorem ord_cell {i:Nat} {o:Oper} (hi:ops[i]? = some o) {S1 S2:St} {v:AV} {b q:Nat} (hp:Pure (tr i).2 S1) (hr:cellRead C.P ((tr i).1.ev nv) o.op S1 = some (b,q))
 (hop:opE C call ((tr i).1.ev nv) o.op (lowB dyn S1) = some (v,S2)) (he:evs i = evOf C.P dyn ((tr i).1.ev nv) o.op S1 S2):Ord ops i (ChC tr b q):=by
 have hlt:=(Array.getElem?_eq_some_iff.1 hi).1
 obtain ⟨t,ad,l,m,x,hopq,_,hevad,hlb,_⟩:=cellRead_inv hr
 have hrd:readsP C.P o.op = true:=by rw [hopq];rfl
 have hne:isEff o.op = false:=by rw [hopq];rfl
 have hnf:isFloat o.op = false:=by rw [hopq];rfl
 intro k hk hcc hki
 have hc:=hcc.ch
 have hok:=Array.getElem?_eq_getElem hk
 have hclash:dyn = true → isEff ops[k].op = true → ∃ e,evs k = some e ∧ hitsC b q e = true ∧ isLd e = false:=by
  intro hd heff
  obtain ⟨_,h1 | ⟨hf,_⟩ | ⟨_,_,v',T1,T2,hp',ho',h1,hx,he'⟩⟩:=T.step_kinds hok
  ·exact absurd (by rw [h1]) hc
  ·rw [float_not_eff hf] at heff;cases heff
  ·cases hsb:storeBlk ((tr k).1.ev nv) ops[k].op with
   | some c=>
    refine ⟨.one c,by rw [he'];simp [evOf,hd,heff,hsb],?_,rfl⟩
    have:=store_same hsb ho'
    by_cases e:c = b
    ·simp [hitsC,e]
    ·exact absurd (by rw [h1,this b (Ne.symm e),lowB_H,hp'.H]) hc
   | none=>
    cases hcs:copySpan ((tr k).1.ev nv) ops[k].op T1 with
    | some t=>
     obtain ⟨c,p1,p2⟩:=t
     refine ⟨.span c p1 p2,by rw [he'];simp [evOf,hd,heff,hsb,hcs],?_,rfl⟩
     have hcs':copySpan ((tr k).1.ev nv) ops[k].op (lowB dyn T1) = some (c,p1,p2):=by rw [← hcs];unfold copySpan;rw [lowB_H]
     have hsp:=copy_span hcs' ho'
     by_cases e:c = b
     ·subst e
      by_cases hin:p1 ≤ q ∧ q < p2
      ·simp [hitsC,hin.1,hin.2]
      ·exact absurd (by rw [h1,hsp.2 q hin,lowB_H,hp'.H]) hcc
     ·exact absurd (by rw [h1,hsp.1 b (Ne.symm e),lowB_H,hp'.H]) hc
    | none=>
    refine ⟨.eff (Nat.min T2.low T1.H.length),by rw [he'];simp [evOf,hd,heff,hsb,hcs],?_,rfl⟩
    simp only [hitsC]
    refine Nat.ble_eq_true_of_le (Nat.le_of_not_lt fun hl=>hc ?_)
    have hl1:b < T2.low:=Nat.lt_of_lt_of_le hl (Nat.min_le_left _ _)
    have hl2:b < T1.H.length:=Nat.lt_of_lt_of_le hl (Nat.min_le_right _ _)
    have:=hx.same b (by rw [lowB_H];exact hl2) hl1
    rw [lowB_H,hp'.H] at this
    rw [h1];exact this
 have hei:dyn = true → evs i = some (.cell b q):=by
  intro hd;rw [he];simp [evOf,hd,hne,hr]
 refine ⟨fun h=>?_,fun h=>?_⟩
 ·rcases regOk_pair T.reg h hok hi with h1 | h1
  ·exact h1
  ·simp only [pairW,Bool.and_eq_true,Bool.not_eq_true',Bool.and_eq_false_iff,Bool.or_eq_false_iff,Bool.or_eq_true] at h1
   obtain ⟨⟨⟨_,h3⟩,h4⟩,h5⟩:=h1
   rcases T.ch_kind hok hc with a | ⟨a,_⟩
   ·rcases h5 with h5 | ⟨_,h5⟩
    ·obtain ⟨e,h6,h7,h8⟩:=hclash h5 a
     have:=T.evs k i _ _ h hlt h6 (hei h5)
     refine (befOf_eq ops i k).1 ?_
     cases e with
     | load c=>cases h8
     | cell c d=>cases h8
     | eff l=>simpa [clash1,h7] using this
     | one c=>simpa [clash1,h7] using this
     | span c p q=>simpa [clash1,h7] using this
    ·rcases h5 with h5 | h5
     ·rw [a] at h5;cases h5
     ·rw [hrd] at h5;cases h5
   ·rcases h4 with h4 | ⟨_,h4⟩
    ·rw [a] at h4;cases h4
    ·rw [hrd] at h4;cases h4
 ·rcases regOk_pair T.reg h hi hok with h1 | h1
  ·exact h1
  ·simp only [pairW,Bool.and_eq_true,Bool.not_eq_true',Bool.and_eq_false_iff,Bool.or_eq_false_iff,Bool.or_eq_true] at h1
   obtain ⟨_,h5⟩:=h1
   rcases T.ch_kind hok hc with a | ⟨a,e⟩
   ·rcases h5 with h5 | ⟨h5,_⟩
    ·obtain ⟨e,h6,h7,h8⟩:=hclash h5 a
     have:=T.evs i k _ _ h hk (hei h5) h6
     refine (befOf_eq ops k i).1 ?_
     simpa [clash1,h7] using this
    ·rcases h5 with h5 | h5
     ·rw [hrd] at h5;cases h5
     ·rw [a] at h5;cases h5
   ·exfalso
    subst e
    rw [hp.H,T.early hok a i (by omega)] at hlb
    injection hlb with hlb
    injection hlb with hlb1 hlb2
    subst hlb2
    rw [hopq] at hop
    obtain ⟨kk,q1,q2⟩:=read_alive (b:=nm ops base k) (by simp only [readOf,hevad];rfl) hop
    rw [lowB_H,hp.H,T.early hok a i (by omega)] at q1
    injection q1 with q1;subst q1;exact q2 rfl
theorem last_cell {b q:Nat} {D:Nat → Prop} {n i:Nat} (hn:n ≤ ops.size) (hin:i ≤ n) (hcl:Closed ops D) (h:∀ k,k < n → ChC tr b q k → (D k ↔ k < i)) :
 cellOf q (lget b (tr (last D (Ch tr b) n)).2.H) = cellOf q (lget b (tr i).2.H):=by
 have x0:∀ k,k < n → ¬ ChC tr b q k → cellOf q (lget b (tr (k + 1)).2.H) = cellOf q (lget b (tr k).2.H):=fun k _ hk=>Classical.not_not.1 hk
 have key1:∀ m,m ≤ n → (∀ k,k < m → ChC tr b q k → D k) → cellOf q (lget b (tr m).2.H) = cellOf q (lget b (tr (last D (ChC tr b q) m)).2.H):=by
  intro m
  induction m with
  | zero=>intro _ _;rfl
  | succ m ih=>
   intro hm hall
   simp only [last]
   split
   ·rfl
   ·rename_i hc
    have hno:¬ ChC tr b q m:=fun hch=>hc ⟨hall m (by omega) hch,hch⟩
    rw [x0 m (by omega) hno,ih (by omega) fun k hk=>hall k (by omega)]
 have key2:∀ m,m ≤ n → cellOf q (lget b (tr (last D (Ch tr b) m)).2.H) = cellOf q (lget b (tr (last D (ChC tr b q) m)).2.H):=by
  intro m
  induction m with
  | zero=>intro _;rfl
  | succ m ih=>
   intro hm
   by_cases hc:D m ∧ Ch tr b m
   ·have e1:last D (Ch tr b) (m + 1) = m + 1:=by simp only [last];rw [if_pos hc]
    rw [e1]
    refine key1 (m + 1) hm fun k hk hch=>?_
    rcases Nat.lt_or_ge k m with h1 | h1
    ·have hb:=T.ch_ordered h1 (Array.getElem?_eq_getElem (by omega)) (Array.getElem?_eq_getElem (by omega)) hch.ch hc.2
     exact bef_spec hcl m k _ (Array.getElem?_eq_getElem (by omega)) hb fun e he hb'=>hcl m _ (Array.getElem?_eq_getElem (by omega)) hc.1 e he hb'
    ·have:k = m:=by omega
     subst this;exact hc.1
   ·have e1:last D (Ch tr b) (m + 1) = last D (Ch tr b) m:=by simp only [last];rw [if_neg hc]
    have e2:last D (ChC tr b q) (m + 1) = last D (ChC tr b q) m:=by
     simp only [last];rw [if_neg fun hh=>hc ⟨hh.1,hh.2.ch⟩]
    rw [e1,e2,ih (by omega)]
 rw [key2 n (Nat.le_refl _)]
 exact last_agree (x:=fun k=>cellOf q (lget b (tr k).2.H)) x0 hin h
theorem ord_eff {i:Nat} {o:Oper} (hi:ops[i]? = some o) (he:isEff o.op = true) {b:Nat} (hb:∀ k o',i < k → ops[k]? = some o' → isFloat o'.op = true → b ≠ nm ops base k):Ord ops i (Ch tr b):=by
 intro k hk hc hki
 have hok:=Array.getElem?_eq_getElem hk
 refine ⟨fun h=>?_,fun h=>?_⟩
 ·rcases regOk_pair T.reg h hok hi with h1 | h1
  ·exact h1
  ·exfalso
   simp only [pairW,Bool.and_eq_true,Bool.not_eq_true',Bool.and_eq_false_iff,Bool.or_eq_false_iff,Bool.or_eq_true] at h1
   obtain ⟨⟨⟨_,h3⟩,h4⟩,h5⟩:=h1
   rcases T.ch_kind hok hc with a | ⟨a,_⟩ <;> simp_all
 ·rcases regOk_pair T.reg h hi hok with h1 | h1
  ·exact h1
  ·exfalso
   simp only [pairW,Bool.and_eq_true,Bool.not_eq_true',Bool.and_eq_false_iff,Bool.or_eq_false_iff,Bool.or_eq_true] at h1
   obtain ⟨⟨⟨_,h3⟩,h4⟩,h5⟩:=h1
   rcases T.ch_kind hok hc with a | ⟨a,e⟩
   ·simp_all
   ·exact hb k _ h hok a e
end Tr
end
section
variable [RowAddr] [Co]
open Region
theorem list_ext {α:Type} {l l':List α} (h:∀ b:Nat,lget b l = lget b l'):l = l':=List.ext_getElem? fun b=>by rw [← lget_eq,← lget_eq];exact h b
theorem len_of_some {α:Type} {l l':List α} (h:∀ b:Nat,(lget b l).isSome = (lget b l').isSome):l.length = l'.length:=by
 have key:∀ (a c:List α),(∀ b:Nat,(lget b a).isSome = true → (lget b c).isSome = true) → a.length ≤ c.length:=by
  intro a c hac
  rcases Nat.lt_or_ge c.length a.length with h | h
  ·have:=hac c.length (by rw [lget_eq];simp [h])
   rw [lget_eq,List.getElem?_eq_none (Nat.le_refl _)] at this;cases this
  ·exact h
 exact Nat.le_antisymm (key _ _ fun b hb=>by rw [← h b];exact hb) (key _ _ fun b hb=>by rw [h b];exact hb)
theorem lget_some_of_lt {α:Type} {l:List α} {b:Nat} (h:b < l.length):∃ k,lget b l = some k:=⟨l[b],by rw [lget_eq];simp [h]⟩
namespace Tr
variable {C:Cfg} [ExtOk C] {call:CallF} {nv nt:Nat} {dyn:Bool} {ops:Array Oper} {base:Nat} {tr:Nat → Fr × St} {evs:Nat → Option Ev}
variable {G:Nat → Option (List AV)}
structure Inv (C:Cfg) (nv nt:Nat) (ops:Array Oper) (base:Nat) (tr:Nat → Fr × St) (G:Nat → Option (List AV)) (β0:Map) (H0:List Blk) (w0:World) (D:Nat → Prop) (β:Map) (a:Act) (w:World) (H:List Blk):Prop where
 cl:Closed ops D
 fr:∀ t,VRel β ((tr (last D (ChF ops t) ops.size)).1.get nv t) (a.tmps.getD t undef)
 size:a.tmps.size = nt
 defers:a.defers = []
 hp:∀ b,lget b H = lget b (tr (last D (Ch tr b) ops.size)).2.H
 rel:HRel G β H w
 fl:∀ (k:Nat) o,ops[k]? = some o → isFloat o.op = true → ¬ D k → β (nm ops base k) = none
 fo:∀ (k:Nat) o,ops[k]? = some o → isFloat o.op = true → ∀ kk,lget (nm ops base k) H = some kk → kk.mode.alive → ∃ L,β (nm ops base k) = some L
 stp:Stp β0 H0 w0 β H w
theorem Inv.rely {C:Cfg} {nv nt:Nat} {ops:Array Oper} {base:Nat} {tr:Nat → Fr × St} {G:Nat → Option (List AV)} {β0 β:Map} {H0 H:List Blk} {w0 w:World} {D:Nat → Prop} {a:Act}
 (I:Inv C nv nt ops base tr G β0 H0 w0 D β a w H) {w₁:World} (h:Rely w w₁):Inv C nv nt ops base tr G β0 H0 w0 D β a w₁ H:=
 ⟨I.cl,I.fr,I.size,I.defers,I.hp,I.rel.rely h,I.fl,I.fo,I.stp.trans (h.stp β H)⟩
theorem last_le {D Ch:Nat → Prop} (n:Nat):last D Ch n ≤ n:=by
 induction n with
 | zero=>exact Nat.le_refl _
 | succ n ih=>simp only [last];split <;> omega
noncomputable def evD (nv:Nat) (ops:Array Oper) (tr:Nat → Fr × St) (D:Nat → Prop) (x:Operand):AV:=
 match x with
 | .tmp t=>(tr (last D (ChF ops t) ops.size)).1.get nv t
 | x=>Fr.ev nv (tr 0).1 x
variable {β0 β:Map} {H0 H:List Blk} {w0 w:World} {D:Nat → Prop} {a:Act}
theorem Inv.ev (I:Inv C nv nt ops base tr G β0 H0 w0 D β a w H) (x:Operand):VRel β (evD nv ops tr D x) (a.eval x):=by
 cases x with
 | tmp t=>exact I.fr t
 | const v=>exact absV_rel β v
 | global g=>have:=VRel.gp (β:=β) (2 * g) (.c 0);rw [show gAt (2 * g) (N.c 0).v = at' g 0 from gAt_var g 0] at this;exact this
 | func f=>exact .fn (.func f) 0 [] [] [] rfl rfl (fun i x v hx=>by simp at hx)
variable (T:Tr C call nv nt dyn ops base tr evs)
include T
theorem evD_eq {i:Nat} {o:Oper} (R:Ready ops D i o) {t:Nat} (ht:t ∈ Oper.looksAt ops o):evD nv ops tr D (.tmp t) = (tr i).1.get nv t:=by
 have hlt:=(Array.getElem?_eq_some_iff.1 R.get).1
 show (tr (last D (ChF ops t) ops.size)).1.get nv t = _
 exact last_agree (x:=fun k=>(tr k).1.get nv t) (fun k hk hc=>T.frame_same hc hk) (Nat.le_of_lt hlt) (R.iff (T.ord_looks R.get ht))
theorem evD_op {i:Nat} {o:Oper} (R:Ready ops D i o):∀ x ∈ o.op.operands,evD nv ops tr D x = (tr i).1.ev nv x:=by
 intro x hx
 cases x with
 | tmp t=>exact T.evD_eq R (by
  unfold Oper.looksAt
  refine List.mem_append_left _ (List.mem_filterMap.2 ⟨.tmp t,by simpa using hx,rfl⟩))
 | _=>rfl
theorem guard_eq {i:Nat} {o:Oper} (R:Ready ops D i o) (S:St):guardOk ops.toList (evD nv ops tr D) o.guard S = guardOk ops.toList ((tr i).1.ev nv) o.guard S:=
 guardOk_congr (fun t ht=>T.evD_eq R ht) S
omit T in
theorem heap_eq {i:Nat} {o:Oper} (T:Tr C call nv nt dyn ops base tr evs) (R:Ready ops D i o) {b:Nat} (h:Ord ops i (Ch tr b)):lget b (tr (last D (Ch tr b) ops.size)).2.H = lget b (tr i).2.H:=by
 have hlt:=(Array.getElem?_eq_some_iff.1 R.get).1
 exact last_agree (x:=fun k=>lget b (tr k).2.H) (fun k _ hk=>Classical.not_not.1 hk) (Nat.le_of_lt hlt) (R.iff h)
theorem frame_new {β':Map} {i:Nat} {o:Oper} (R:Ready ops D i o) (hfr:∀ t,VRel β' ((tr (last D (ChF ops t) ops.size)).1.get nv t) (a.tmps.getD t undef)) (hsz:a.tmps.size = nt)
 {x:AV} {v:Value} (hF:(tr (i + 1)).1 = (tr i).1.put nv o.dst x) (hv:VRel β' x v) :
 ∀ t,VRel β' ((tr (last (fun k=>D k ∨ k = i) (ChF ops t) ops.size)).1.get nv t) ((a.put o.dst v).tmps.getD t undef):=by
 have hlt:=(Array.getElem?_eq_some_iff.1 R.get).1
 intro t
 by_cases hd:o.dst = some t
 ·have hch:ChF ops t i:=⟨o,R.get,hd⟩
  rw [last_new hlt hch (fun k h1 h2 hc=>R.later h2 ((T.ord_dst R.get hd k h2 hc (by omega)).2 h1)),hF,hd]
  have htn:t < nt:=regOk_dst T.reg o (by have:=R.get;exact List.mem_of_getElem? (i:=i) (by simpa using this)) t hd
  have e:(a.put (some t) v).tmps.getD t undef = v:=by
   simp [Act.put,Array.getD_eq_getD_getElem?,hsz,htn]
  rw [e]
  rcases Fr.get_put_self nv (tr i).1 t x with e | e
  ·rw [e];exact hv
  ·rw [e];exact .undef _
 ·have hch:¬ ChF ops t i:=by
   rintro ⟨o',ho',hd'⟩
   rw [R.get] at ho';injection ho' with ho';subst ho';exact hd hd'
  rw [last_same hch]
  have e:(a.put o.dst v).tmps.getD t undef = a.tmps.getD t undef:=by
   cases hd':o.dst with
   | none=>rfl
   | some d=>
    have hne:d ≠ t:=fun e=>hd (by rw [hd',e])
    simp [Act.put,Array.getD_eq_getD_getElem?,Array.getElem?_setIfInBounds_ne hne]
  rw [e];exact hfr t
omit T in
theorem heap_new {H':List Blk} {i:Nat} {o:Oper} (T:Tr C call nv nt dyn ops base tr evs) (R:Ready ops D i o) (hp:∀ b,lget b H = lget b (tr (last D (Ch tr b) ops.size)).2.H)
 (h1:∀ b,Ch tr b i → lget b H' = lget b (tr (i + 1)).2.H) (h2:∀ b,¬ Ch tr b i → lget b H' = lget b H) :
 ∀ b,lget b H' = lget b (tr (last (fun k=>D k ∨ k = i) (Ch tr b) ops.size)).2.H:=by
 have hlt:=(Array.getElem?_eq_some_iff.1 R.get).1
 intro b
 by_cases hc:Ch tr b i
 ·rw [last_new hlt hc (fun k g1 g2 g3=>R.later g2 (T.ch_ordered g1 R.get (Array.getElem?_eq_getElem g2) hc g3))]
  exact h1 b hc
 ·rw [last_same hc,h2 b hc];exact hp b
theorem step_any (hG:C.glob = G) (hcall:CallOk C.P G call) (hm:MethOk C.P C.meth) (hok:(tr ops.size).2.ok) (hbase:H0.length = base) {i:Nat} {o:Oper} (R:Ready ops D i o)
 (I:Inv C nv nt ops base tr G β0 H0 w0 D β a w H) {K:Act → World → Prop}
 (hK:∀ β' a' w' H',Inv C nv nt ops base tr G β0 H0 w0 (fun k=>D k ∨ k = i) β' a' w' H' → K a' w'):wpOpJ C.P ops i K a w:=by
 have hlt:=(Array.getElem?_eq_some_iff.1 R.get).1
 have ok1:(tr (i + 1)).2.ok:=T.ok_le (by omega) (Nat.le_refl _) hok
 unfold wpOpJ
 rw [R.get]
 simp only
 have hstep:=stepW_inv (T.step i o R.get)
 obtain ⟨b,S1,hg,hp1,hcase⟩:=hstep
 have hgD:guardOk ops.toList (evD nv ops tr D) o.guard (tr i).2 = some (b,S1):=by rw [T.guard_eq R];exact hg
 have quiet:∀ (x:AV) (v:Value) β' w',(tr (i + 1)).1 = (tr i).1.put nv o.dst x → (tr (i + 1)).2.H = (tr i).2.H → isFloat o.op = false ∨ b = false → VRel β' x v → HRel G β' H w' → Stp β H w β' H w' → K (a.put o.dst v) w':=by
  intro x v β' w' hF hH hfl hv hr hs
  have hno:∀ b,¬ Ch tr b i:=fun b hc=>hc (by rw [hH])
  refine hK β' _ w' H ⟨R.closed,T.frame_new R (fun t=>(I.fr t).mono hs.le) I.size hF hv,?_,?_,heap_new T R I.hp (fun b hc=>absurd hc (hno b)) (fun b _=>rfl),hr,?_,?_,I.stp.trans hs⟩
  ·cases hd:o.dst <;> simp [Act.put,I.size]
  ·cases hd:o.dst <;> simp [Act.put,I.defers]
  ·intro k o' ho' hf hn
   have h1:=I.fl k o' ho' hf (fun h=>hn (.inl h))
   have h2:nm ops base k < H.length:=by
    have h3:∃ kk,lget (nm ops base k) H = some kk:=by
     rw [I.hp]
     refine lget_some_of_lt (Nat.lt_of_lt_of_le ?_ (T.len_le (Nat.zero_le _) (last_le _)))
     rw [T.len];exact nm_bound ho' hf
    obtain ⟨kk,h3⟩:=h3
    exact lget_lt h3
   rw [hs.old _ h2];exact h1
  ·intro k o' ho' hf kk hkk ha
   obtain ⟨L,hL⟩:=I.fo k o' ho' hf kk hkk ha
   exact ⟨L,hs.le _ _ hL⟩
 rcases hcase with ⟨rfl,hF,hS⟩ | ⟨rfl,hfl,v,hfE,hF⟩ | ⟨rfl,hfl,v,S2,hop,hS,hF,he⟩
 ·
  rw [guard_spec' I.ev hgD (by rw [hS] at ok1;exact ok1)]
  simp only [Bool.false_eq_true,if_false]
  exact quiet (.obj .tup []) undef β w hF (by rw [hS];exact hp1.H) (.inr rfl) (.tup0 _) I.rel (Stp.refl ..)
 ·
  have hev:evD nv ops tr D = evD nv ops tr D:=rfl
  have hfE':floatE C (evD nv ops tr D) o.op (base + floats (ops.toList.take i)) S1 = some (v,(tr (i + 1)).2):=by
   rw [← hfE]
   have hop':=T.evD_op R
   revert hop' hfl
   cases o.op <;> intro hfl hop' <;> simp only [isFloat,Bool.false_eq_true] at hfl <;> simp only [floatE]
   ·rename_i t n ps
    rw [evP_congr (l:=ps.toList) fun p hp=>hop' p.2 (by simp only [Op.operands];simp;exact ⟨p.1,by simpa using hp⟩)]
   ·rename_i t l c
    rw [hop' l (by simp [Op.operands]),hop' c (by simp [Op.operands])]
  obtain ⟨d,S3,hp3,hH3,hc3,_,_,hspec⟩:=floatE_spec hfE' I.ev
  have ok3:S3.ok:=by
   intro x hx;exact ok1 x (by rw [hc3];exact hx)
  obtain ⟨vs,t,vv,hvs,hrun,hrel⟩:=hspec ok3
  rw [guard_spec' I.ev hgD (hp3.ok ok3)]
  simp only [if_true]
  intro w₁ h₁
  replace I:=I.rely h₁
  clear h₁
  refine ⟨_,_,hrun w₁,fun hn=>⟨far_alloc _ _,?_⟩⟩
  have hnD:=R.not
  have hβn:=I.fl i o R.get hfl hnD
  have hdead:lget (nm ops base i) (tr i).2.H = some ⟨.gen [],.dead⟩:=T.early R.get hfl i (Nat.le_refl _)
  have hsome:∃ kk,lget (nm ops base i) H = some kk:=by
   rw [I.hp]
   refine lget_some_of_lt (Nat.lt_of_lt_of_le ?_ (T.len_le (Nat.zero_le _) (last_le _)))
   rw [T.len];exact nm_bound R.get hfl
  obtain ⟨kk,hkk⟩:=hsome
  have hkk':H[nm ops base i]? = some kk:=by rw [← lget_eq];exact hkk
  have hdl:d.len = vs.length:=by rw [← Data.list_len];exact hvs.1
  obtain ⟨g1,g2,g3⟩:=I.rel.newAt hkk' hβn d vs t (by omega) (by rw [hdl,List.take_length];exact hvs) (new_alloc hn)
  have hle:Map.le β (β.put (nm ops base i) ⟨w₁.heap.size,0,vs.length⟩):=Map.put_le hβn
  have hHi:(tr (i + 1)).2.H = lset ⟨d,.own⟩ (nm ops base i) (tr i).2.H:=by rw [hH3,hp1.H];rfl
  have hnmlt:nm ops base i < (tr i).2.H.length:=lget_lt hdead
  have hsz:(w₁.alloc (.cells ⟨vs⟩ t)).heap.size = w₁.heap.size + 1:=by
   show (w₁.heap.push _).size = _
   simp
  refine hK _ _ _ _ ⟨R.closed,T.frame_new R (fun t=>(I.fr t).mono hle) I.size hF (hrel w₁ _ (Map.put_same ..)),?_,?_,?_,g1,?_,?_,?_⟩
  ·cases hd:o.dst <;> simp [Act.put,I.size]
  ·cases hd:o.dst <;> simp [Act.put,I.defers]
  ·refine heap_new T R I.hp (fun b hc=>?_) (fun b hc=>?_)
   ·have hb:b = nm ops base i:=by
     rcases T.ch_kind R.get hc with h | ⟨_,h⟩
     ·rw [float_not_eff hfl] at h;cases h
     ·exact h
    subst hb
    rw [hHi,← lset_eq,lget_lset,lget_lset,if_pos ⟨rfl,lget_lt hkk⟩,if_pos ⟨rfl,hnmlt⟩]
   ·have hb:b ≠ nm ops base i:=by
     intro e;subst e
     apply hc
     show lget _ _ ≠ lget _ _
     rw [hHi,lget_lset,if_pos ⟨rfl,hnmlt⟩,hdead]
     simp
    rw [← lset_eq,lget_lset,if_neg fun h=>hb h.1.symm]
  ·intro k o' ho' hf hn
   rw [Map.put_ne]
   ·exact I.fl k o' ho' hf (fun h=>hn (.inl h))
   ·intro e;exact hn (.inr (nm_inj (base:=base) ho' hf R.get hfl e))
  ·intro k o' ho' hf kk' hkk' ha
   by_cases e:nm ops base k = nm ops base i
   ·rw [e];exact ⟨_,Map.put_same ..⟩
   ·rw [Map.put_ne e]
    refine I.fo k o' ho' hf kk' ?_ ha
    rw [← lset_eq,lget_lset,if_neg fun h=>e h.1.symm] at hkk'
    exact hkk'
  ·have hs:=I.stp
   refine ⟨Map.le_trans hs.le hle,by rw [List.length_set];exact hs.len,hs.os,hs.tape,hs.output,Nat.le_trans hs.size (by omega),fun c hc hn=>?_,fun c hc ho=>?_,fun b hb=>?_⟩
   ·exact (hs.kept c hc hn).trans (Kp.of (g2 c (Nat.lt_of_lt_of_le hc hs.size)))
   ·exact hs.own c hc (g3 c (Nat.lt_of_lt_of_le hc hs.size) ho)
   ·rw [Map.put_ne]
    ·exact hs.old b hb
    ·have:=nm_ge (ops:=ops) (base:=base) i;omega
 ·
  have okS2:S2.ok:=by rw [hS] at ok1;exact (lowA_ok S1 S2).1 ok1
  have okS1:S1.ok:=(lowB_ok S1).1 ((opE_ext T.ext hop).ok okS2)
  rw [guard_spec' I.ev hgD okS1]
  simp only [if_true]
  have hopD:opE C call (evD nv ops tr D) o.op (lowB dyn S1) = some (v,S2):=by rw [opE_congr (T.evD_op R)];exact hop
  have calm:∀ (hre:opE C call (evD nv ops tr D) o.op ((lowB dyn S1).re H (lowB dyn S1).low []) = (opE C call (evD nv ops tr D) o.op (lowB dyn S1)).map (reP H (lowB dyn S1).low []))
   (hH2:S2.H = S1.H),o.wpj C.P a w K:=by
   intro hre hH2
   rw [hopD] at hre
   have okr:(S2.re H (lowB dyn S1).low []).ok:=by intro x hx;exact okS2 x (by simpa [St.re] using hx)
   refine (opE_wp hG hcall hm (o:=o) (a:=a) (S:=(lowB dyn S1).re H (lowB dyn S1).low []) (S':=S2.re H (lowB dyn S1).low []) (x:=v) hre I.ev I.rel I.defers).2 okr fun vv w' β' q1 q2 q3=>?_
   exact quiet v vv β' w' hF (by rw [hS,lowA_H,hH2,hp1.H]) (.inl hfl) q1 q2 q3
  rcases kinds o.op with hk | hk | hk | hk | hk
  ·refine calm (flat_re hk) ?_
   have:=(pure_of_re (f:=opE C call ((tr i).1.ev nv) o.op) (fun T cs _ _=>flat_re hk) hop).H
   rw [this,lowB_H]
  ·cases hcr:cellRead C.P ((tr i).1.ev nv) o.op S1 with
   | some t=>
    obtain ⟨b,q⟩:=t
    have hcD:cellRead C.P (evD nv ops tr D) o.op (lowB dyn S1) = some (b,q):=by
     obtain ⟨t,ad,l,m,x,e1,e2,e3,e4,e5⟩:=cellRead_inv hcr
     have hev:=T.evD_op R ad (by rw [e1];simp [Op.operands])
     rw [e1]
     simp only [cellRead,e2,hev,e3,lowB_H,e4,e5]
    refine calm (cell_re hcD ?_) ?_
    ·rw [I.hp,lowB_H,hp1.H]
     exact T.last_cell (Nat.le_refl _) (Nat.le_of_lt hlt) I.cl (R.iff (T.ord_cell R.get hp1 hcr hop he))
    ·have:=(pure_of_re (f:=opE C call ((tr i).1.ev nv) o.op) (fun T cs e _=>read_re hk (fun b _=>by rw [e])) hop).H
     rw [this,lowB_H]
   | none=>
   refine calm (read_re hk fun b hb=>?_) ?_
   ·rw [readOf_congr (T.evD_op R)] at hb
    rw [I.hp,T.heap_eq R (T.ord_read R.get hp1 hcr hb hop he),lowB_H,hp1.H]
   ·have:=(pure_of_re (f:=opE C call ((tr i).1.ev nv) o.op) (fun T cs e _=>read_re hk (fun b _=>by rw [e])) hop).H
    rw [this,lowB_H]
  ·rw [hfl] at hk;cases hk
  ·
   have hHc:(lowB dyn S1).H = (tr i).2.H:=by rw [lowB_H,hp1.H]
   have hHn:S2.H = (tr (i + 1)).2.H:=by rw [hS,lowA_H]
   let A:Nat → Prop:=fun b=>∃ k o',i < k ∧ ops[k]? = some o' ∧ isFloat o'.op = true ∧ b = nm ops base k
   have hA0:∀ b,A b → lget b (tr i).2.H = some ⟨.gen [],.dead⟩ ∧ lget b (tr (i + 1)).2.H = some ⟨.gen [],.dead⟩:=by
    rintro b ⟨k,o',h1,h2,h3,rfl⟩
    exact ⟨T.early h2 h3 i (by omega),T.early h2 h3 (i + 1) (by omega)⟩
   have hAs:∀ b,A b → ∃ kk,lget b H = some kk:=by
    rintro b ⟨k,o',h1,h2,h3,rfl⟩
    rw [I.hp]
    refine lget_some_of_lt (Nat.lt_of_lt_of_le ?_ (T.len_le (Nat.zero_le _) (last_le _)))
    rw [T.len];exact nm_bound h2 h3
   have hnA:∀ b,¬ A b → lget b H = lget b (tr i).2.H:=by
    intro b hb
    rw [I.hp]
    exact T.heap_eq R (T.ord_eff R.get hk fun k o' h1 h2 h3 h4=>hb ⟨k,o',h1,h2,h3,h4⟩)
   have hlen:(tr i).2.H.length = H.length:=by
    refine len_of_some fun b=>?_
    by_cases hb:A b
    ·obtain ⟨kk,h⟩:=hAs b hb
     rw [(hA0 b hb).1,h];rfl
    ·rw [hnA b hb]
   have hsub:∀ (b:Nat) k,(tr i).2.H[b]? = some k → k.mode.alive → H[b]? = some k:=by
    intro b k hk ha
    by_cases hb:A b
    ·rw [← lget_eq,(hA0 b hb).1] at hk;injection hk with hk;subst hk;exact absurd rfl ha
    ·rw [← lget_eq,hnA b hb,lget_eq];exact hk
   have hview:HRel G β (lowB dyn S1).H w:=by rw [hHc];exact I.rel.view hlen hsub
   refine (opE_wp hG hcall hm (o:=o) (a:=a) hopD I.ev hview I.defers).2 okS2 fun vv w' β' q1 q2 q3=>?_
   rw [hHn] at q2 q3
   rw [hHc] at q3
   have hxe:Ext (lowB dyn S1) S2:=opE_ext T.ext hop
   classical
   let H2:List Blk:=(List.range (tr (i + 1)).2.H.length).map fun b=>if A b then blkAt H b else blkAt (tr (i + 1)).2.H b
   have hlen2:H2.length = (tr (i + 1)).2.H.length:=by simp [H2]
   have hH2:∀ b,lget b H2 = if A b then lget b H else lget b (tr (i + 1)).2.H:=by
    intro b
    rcases Nat.lt_or_ge b (tr (i + 1)).2.H.length with hb | hb
    ·have:lget b H2 = some (if A b then blkAt H b else blkAt (tr (i + 1)).2.H b):=by
      rw [lget_eq];simp [H2,hb]
     rw [this]
     split
     ·rename_i hA
      obtain ⟨kk,h⟩:=hAs b hA
      simp [blkAt,h]
     ·obtain ⟨kk,h⟩:=lget_some_of_lt hb
      simp [blkAt,h]
    ·have h1:lget b H2 = none:=by rw [lget_eq];exact List.getElem?_eq_none (by rw [hlen2];exact hb)
     rw [h1]
     split
     ·rename_i hA
      have:=lget_lt (hA0 b hA).2
      omega
     ·rw [lget_eq,List.getElem?_eq_none hb]
   have hno:∀ b,A b → ¬ Ch tr b i:=by
    intro b hb hc
    exact hc (by rw [(hA0 b hb).1,(hA0 b hb).2])
   obtain ⟨r1,r2⟩:=HRel.revive (H2:=H2) I.rel hlen hsub q2 q3 A hlen2
    (fun b hb=>⟨by rw [← lget_eq,← lget_eq,hH2,if_pos hb],fun k' hk'=>by rw [← lget_eq,(hA0 b hb).1] at hk';injection hk' with hk';subst hk';rfl,fun k hk ha=>by
     obtain ⟨k0,o',h1,h2,h3,rfl⟩:=hb
     rw [← lget_eq] at hk
     refine ⟨?_,I.fo k0 o' h2 h3 k hk ha⟩
     rw [I.hp] at hk
     have:=T.owned h2 h3 _ (last_le _) k hk
     cases hm:k.mode with
     | own=>rfl
     | ro=>exact absurd hm this
     | dead=>exact absurd hm ha⟩)
    (fun b hb=>by rw [← lget_eq,← lget_eq,hH2,if_neg hb])
    (fun b k hk hr=>by
     rw [← lget_eq] at hk ⊢
     have:=hxe.ro b k (by rw [hHn];exact hk) hr
     rw [hHc] at this;exact this)
   refine hK β' _ w' H2 ⟨R.closed,T.frame_new R (fun t=>(I.fr t).mono q3.le) I.size hF q1,?_,?_,?_,r1,?_,?_,I.stp.trans r2⟩
   ·cases hd:o.dst <;> simp [Act.put,I.size]
   ·cases hd:o.dst <;> simp [Act.put,I.defers]
   ·refine heap_new T R I.hp (fun b hc=>?_) (fun b hc=>?_)
    ·rw [hH2,if_neg fun hb=>hno b hb hc]
    ·rw [hH2]
     split
     ·rfl
     ·rename_i hb
      rw [hnA b hb]
      exact Classical.not_not.1 hc
   ·intro k o' ho' hf hn
    have h1:=I.fl k o' ho' hf (fun h=>hn (.inl h))
    have h2:nm ops base k < H.length:=by
     obtain ⟨kk,h3⟩:∃ kk,lget (nm ops base k) H = some kk:=by
      rw [I.hp]
      refine lget_some_of_lt (Nat.lt_of_lt_of_le ?_ (T.len_le (Nat.zero_le _) (last_le _)))
      rw [T.len];exact nm_bound ho' hf
     exact lget_lt h3
    rw [r2.old _ h2];exact h1
   ·intro k o' ho' hf kk hkk ha
    by_cases hD:D k
    ·
     have hwas:∃ L,β (nm ops base k) = some L:=by
      rw [hH2] at hkk
      by_cases hb:A (nm ops base k)
      ·rw [if_pos hb] at hkk
       exact I.fo k o' ho' hf kk hkk ha
      ·rw [if_neg hb] at hkk
       obtain ⟨k1,hk1⟩:∃ k1,lget (nm ops base k) (tr i).2.H = some k1:=by
        refine lget_some_of_lt (Nat.lt_of_lt_of_le ?_ (T.len_le (Nat.zero_le _) (Nat.le_of_lt hlt)))
        rw [T.len];exact nm_bound ho' hf
       have hk1a:k1.mode.alive:=by
        intro hm
        have:=hxe.dead _ _ (by rw [hHc];exact hk1) hm
        rw [hHn,hkk] at this
        injection this with this;subst this;exact ha hm
       exact I.fo k o' ho' hf k1 (by rw [hnA _ hb];exact hk1) hk1a
     obtain ⟨L,hL⟩:=hwas
     exact ⟨L,q3.le _ _ hL⟩
    ·
     exfalso
     have hki:k ≠ i:=by
      intro e;subst e;rw [R.get] at ho';injection ho' with ho';subst ho';rw [hf] at hfl;cases hfl
     have hn:¬ (D k ∨ k = i):=fun h=>h.elim hD hki
     have e1:lget (nm ops base k) H2 = lget (nm ops base k) (tr (last (fun k=>D k ∨ k = i) (Ch tr (nm ops base k)) ops.size)).2.H:=
      heap_new T R I.hp (fun b hc=>by rw [hH2,if_neg fun hb=>hno b hb hc]) (fun b hc=>by
       rw [hH2]
       split
       ·rfl
       ·rename_i hb
        rw [hnA b hb]
        exact Classical.not_not.1 hc) _
     have hklt:=(Array.getElem?_eq_some_iff.1 ho').1
     have key:∀ n,n ≤ ops.size → last (fun k=>D k ∨ k = i) (Ch tr (nm ops base k)) n ≤ k:=by
      intro n
      induction n with
      | zero=>intro _;simp [last]
      | succ n ih=>
       intro hn'
       simp only [last]
       split
       ·rename_i hc
        rcases Nat.lt_trichotomy n k with h | h | h
        ·omega
        ·subst h;exact absurd hc.1 hn
        ·exfalso
         have hck:Ch tr (nm ops base k) k:=by
          intro heq
          have hdead:∀ j,k ≤ j → j ≤ ops.size → lget (nm ops base k) (tr j).2.H = some ⟨.gen [],.dead⟩:=by
           intro j
           induction j with
           | zero=>intro h1 _;have:k = 0:=by omega
                   subst this;exact T.early ho' hf 0 (Nat.le_refl _)
           | succ j ihj=>
            intro h1 h2
            rcases Nat.lt_or_ge k (j + 1) with h3 | h3
            ·by_cases hjk:j = k
             ·subst hjk;rw [heq];exact T.early ho' hf j (Nat.le_refl _)
             ·have hjlt:j < ops.size:=by omega
              obtain ⟨_,h | ⟨hfk,b,_,h⟩ | ⟨_,_,v,S1',S2',hp',_,h,hx,_⟩⟩:=T.step_kinds (Array.getElem?_eq_getElem hjlt)
              ·rw [h];exact ihj (by omega) (by omega)
              ·rw [h,lget_lset,if_neg]
               ·exact ihj (by omega) (by omega)
               ·intro ⟨e,_⟩
                have:=nm_inj (Array.getElem?_eq_getElem hjlt) hfk ho' hf e
                omega
              ·rw [h];exact hx.dead _ _ (by rw [lowB_H,hp'.H];exact ihj (by omega) (by omega)) rfl
            ·have:k = j + 1:=by omega
             subst this;exact T.early ho' hf _ (Nat.le_refl _)
          exact hc.2 (by rw [hdead n (by omega) (by omega),hdead (n + 1) (by omega) (by omega)])
         have hb:=T.ch_ordered h ho' (Array.getElem?_eq_getElem (by omega)) hck hc.2
         have hcl:=R.closed
         have hnl:n < ops.size:=by omega
         exact hn (bef_spec hcl n k _ (Array.getElem?_eq_getElem hnl) hb fun e he hb'=>hcl n _ (Array.getElem?_eq_getElem hnl) hc.1 e he hb')
       ·exact ih (by omega)
     rw [e1,T.early ho' hf _ (key _ (Nat.le_refl _))] at hkk
     injection hkk with hkk;subst hkk;exact ha rfl
  ·rw [hk] at hop;cases hop
end Tr
end
section
variable [RowAddr] [Co]
open Region
theorem pads_get:∀ (n b:Nat),lget b (pads n) = if b < n then some ⟨.gen [],.dead⟩ else none
 | 0,b=>by simp [pads,lget]
 | n + 1,0=>by simp [pads,lget]
 | n + 1,b + 1=>by simp [pads,lget,pads_get n b]
theorem pads_len:∀ n,(pads n).length = n
 | 0=>rfl
 | n + 1=>by simp [pads,pads_len n]
theorem padSt_H (S:St) (n:Nat):(padSt S n).H = S.H ++ pads n:=by cases n <;> simp [padSt,pads]
theorem padSt_ok (S:St) (n:Nat):(padSt S n).ok ↔ S.ok:=by cases n <;> exact Iff.rfl
theorem padSt_low (S:St) (n:Nat):(padSt S n).low = S.low:=by cases n <;> rfl
theorem pad_get (H:List Blk) (n b:Nat):lget b (H ++ pads n) = if b < H.length then lget b H else if b < H.length + n then some ⟨.gen [],.dead⟩ else none:=by
 rw [lget_eq,lget_eq]
 by_cases h:b < H.length
 ·rw [List.getElem?_append_left h,if_pos h]
 ·rw [List.getElem?_append_right (by omega),if_neg h,← lget_eq,pads_get]
  by_cases h2:b < H.length + n
  ·rw [if_pos h2,if_pos (by omega)]
  ·rw [if_neg h2,if_neg (by omega)]
section
variable {G:Nat → Option (List AV)} {β:Map} {w:World}
theorem HRel.pad {H:List Blk} (hH:HRel G β H w) (n:Nat):HRel G β (H ++ pads n) w ∧ Stp β H w β (H ++ pads n) w:=by
 have hget:∀ (b:Nat) k,(H ++ pads n)[b]? = some k → k.mode.alive → H[b]? = some k:=by
  intro b k hk ha
  rw [← lget_eq,pad_get] at hk
  split at hk
  ·rw [← lget_eq];exact hk
  ·split at hk
   ·injection hk with hk;subst hk;exact absurd rfl ha
   ·cases hk
 refine ⟨⟨fun b k hk ha=>hH.blk b k (hget b k hk ha) ha,fun b b' k k' L L' hne hk hk' ho ha=>hH.dis b b' k k' L L' hne (hget b k hk (own_alive ho)) (hget b' k' hk' ha) ho ha,
  fun b L h=>by have:=hH.dom b L h;simp;omega,hH.glob,fun b k L hk ho=>hH.apart b k L (hget b k hk (own_alive ho)) ho⟩,
  ⟨Map.le_refl β,by simp,rfl,rfl,rfl,Nat.le_refl _,fun _ _ _=>Kp.refl _ _,fun c hc ⟨b,k,L,hk,ho,hL,hLc⟩=>⟨b,k,L,hget b k hk (own_alive ho),ho,hL,hLc⟩,fun _ _=>rfl⟩⟩
theorem count_set:∀ (l:List Bool) (i:Nat),l[i]? = some false → (l.set i true).count false + 1 = l.count false
 | [],i,h=>by simp at h
 | x :: l,0,h=>by simp at h;subst h;simp
 | x :: l,i + 1,h=>by
  have:=count_set l i (by simpa using h)
  simp only [List.set_cons_succ,List.count_cons];omega
theorem count_zero {l:List Bool} (h:l.count false = 0) (i:Nat) (hi:i < l.length):l[i]? = some true:=by
 have hn:false ∉ l:=List.count_eq_zero.1 h
 have:l[i] ∈ l:=List.getElem_mem hi
 rw [List.getElem?_eq_getElem hi]
 cases hl:l[i] with
 | true=>rfl
 | false=>rw [hl] at this;exact absurd this hn
variable {C:Cfg} [ExtOk C] {call:CallF} {nv nt:Nat}
theorem any_order (hG:C.glob = G) (hcall:CallOk C.P G call) (hm:MethOk C.P C.meth) {dyn:Bool} {ops:Array Oper} {base:Nat} {tr:Nat → Fr × St} {evs:Nat → Option Ev}
 (T:Tr C call nv nt dyn ops base tr evs) (hok:(tr ops.size).2.ok) {β0:Map} {H0:List Blk} {w0:World} (hbase:H0.length = base) {Q:Exit → Act → World → Prop}
 (hQ:∀ a' w' β',FRel nv nt β' (tr ops.size).1 a' → HRel G β' (tr ops.size).2.H w' → Stp β0 H0 w0 β' (tr ops.size).2.H w' → Q .normal a' w') :
 ∀ (fuel:Nat) (listed:Array Bool) (β:Map) (a:Act) (w:World) (H:List Blk),listed.size = ops.size → listed.toList.count false ≤ fuel →
  Tr.Inv C nv nt ops base tr G β0 H0 w0 (fun k=>listed.getD k false = true) β a w H → wpAnyJ C.P .any ops Q fuel listed a w:=by
 have hall:∀ (listed:Array Bool) (β:Map) (a:Act) (w:World) (H:List Blk),listed.size = ops.size →
  Tr.Inv C nv nt ops base tr G β0 H0 w0 (fun k=>listed.getD k false = true) β a w H → Region.ready .any ops listed = [] → Q .normal a w:=by
  intro listed β a w H hsz I hr
  have hl:∀ k,k < ops.size → listed.getD k false = true:=by
   intro k
   induction k using Nat.strongRecOn with
   | _ k ih=>
    intro hk
    cases hc:listed.getD k false with
    | true=>rfl
    | false=>
     exfalso
     have hm:k ∈ Region.ready .any ops listed:=by
      rw [mem_ready]
      refine ⟨?_,ops[k],Array.getElem?_eq_getElem hk,fun e he hb=>?_⟩
      ·have hkl:k < listed.size:=by omega
       simp only [Array.getD_eq_getD_getElem?,Array.getElem?_eq_getElem hkl,Option.getD_some] at hc ⊢
       exact hc
      ·have:=regOk_edges T.reg k _ (Array.getElem?_eq_getElem hk) e he hb
       exact ih e.on this (by omega)
     rw [hr] at hm;cases hm
  have e1:∀ {α:Type} (x:Nat → α) (Ch:Nat → Prop),(∀ k,k < ops.size → ¬ Ch k → x (k + 1) = x k) → x (last (fun k=>listed.getD k false = true) Ch ops.size) = x ops.size:=
   fun x Ch hx=>last_agree hx (Nat.le_refl _) fun k hk _=>⟨fun _=>hk,fun _=>hl k hk⟩
  have hH:H = (tr ops.size).2.H:=list_ext fun b=>by
   rw [I.hp];exact e1 (fun k=>lget b (tr k).2.H) _ fun k _ hk=>Classical.not_not.1 hk
  subst hH
  refine hQ a w β ⟨fun t=>?_,I.size,I.defers⟩ I.rel I.stp
  have:=I.fr t
  rw [e1 (fun k=>(tr k).1.get nv t) (Tr.ChF ops t) fun k hk hc=>T.frame_same hc hk] at this
  exact this
 intro fuel
 induction fuel with
 | zero=>
  intro listed β a w H hsz hc I
  have hr:Region.ready .any ops listed = []:=by
   rw [List.eq_nil_iff_forall_not_mem]
   intro j hj
   obtain ⟨h0,o,ho,_⟩:=mem_ready.1 hj
   have hjl:j < listed.size:=by rw [hsz];exact (Array.getElem?_eq_some_iff.1 ho).1
   have:=count_zero (l:=listed.toList) (by omega) j (by simpa using hjl)
   simp only [Array.getD_eq_getD_getElem?,Array.getElem?_eq_getElem hjl,Option.getD_some] at h0
   simp [hjl,h0] at this
  exact ⟨hr,hall listed β a w H hsz I hr⟩
 | succ fuel ih=>
  intro listed β a w H hsz hc I
  refine ⟨hall listed β a w H hsz I,fun i hi=>?_⟩
  obtain ⟨h0,o,ho,hpre⟩:=mem_ready.1 hi
  have hil:i < listed.size:=by rw [hsz];exact (Array.getElem?_eq_some_iff.1 ho).1
  have h0':listed[i]? = some false:=by
   simp only [Array.getD_eq_getD_getElem?,Array.getElem?_eq_getElem hil,Option.getD_some] at h0
   rw [Array.getElem?_eq_getElem hil,h0]
  have R:Tr.Ready ops (fun k=>listed.getD k false = true) i o:=
   ⟨I.cl,by simp [Array.getD_eq_getD_getElem?,h0'],ho,fun e he hb=>hpre e he hb⟩
  refine T.step_any hG hcall hm hok hbase R I fun β' a' w' H' I'=>?_
  refine ih _ β' a' w' H' (by simp [hsz]) ?_ ?_
  ·have:=count_set listed.toList i (by simpa using h0')
   simp only [Array.toList_setIfInBounds];omega
  ·have e:(fun k=>(listed.setIfInBounds i true).getD k false = true) = fun k=>listed.getD k false = true ∨ k = i:=by
    funext k
    by_cases hk:i = k
    ·subst hk;simp [Array.getD_eq_getD_getElem?,hil]
    ·simp [Array.getD_eq_getD_getElem?,Array.getElem?_setIfInBounds_ne hk,Ne.symm hk]
   rw [e];exact I'
theorem region_wp (hG:C.glob = G) (hcall:CallOk C.P G call) (hm:MethOk C.P C.meth) (hmix:C.P.follows .mixedOrders = true) {id:Nat} {ops:Array Oper} {draw:Bool} {E:Env} (hE:E.call = call) (hnv:E.nv = nv)
 (hreg:regOk C.P nt (E.dyn id) ops draw = true) {F F':Fr} {S S':St} {o:Out} (h:regionE C id ops.toList (befOf ops) draw E F S = some (o,F',S')) (ok:S'.ok) {a:Act} (hF:FRel nv nt β F a) (hH:HRel G β S.H w)
 {Q:Exit → Act → World → Prop} (hQ:∀ a' w' β',FRel nv nt β' F' a' → HRel G β' S'.H w' → Stp β S.H w β' S'.H w' → Q .normal a' w'):o = .normal ∧ (Code.region id ops draw).wpj C.P Q a w:=by
 subst hE hnv
 unfold regionE at h
 cases draw with
 | false=>
  simp only at h
  split at h
  case h_2=>cases h
  rename_i F1 S1 hr
  simp only [Option.some.injEq,Prod.mk.injEq] at h
  obtain ⟨rfl,rfl,rfl⟩:=h
  refine ⟨rfl,?_⟩
  refine wpj_region ?_
  have:=runOps_wp hG hcall hm (nv:=E.nv) (ops:=ops) (regOk_dst hreg) (Q:=Q) ops.toList 0 F F1 S S1 β a w (by simp) hr ok hF hH (fun a' w' β' q1 q2 q3=>hQ a' w' β' (q1.keep _) q2 q3)
  rw [List.range_eq_range']
  simpa using this
 | true=>
  simp only at h
  split at h
  case h_2=>cases h
  rename_i F1 S1 es hr
  split at h
  ·cases h
  rename_i hcl
  simp only [Option.some.injEq,Prod.mk.injEq] at h
  obtain ⟨rfl,rfl,rfl⟩:=h
  refine ⟨rfl,?_⟩
  obtain ⟨tr,evs,h0,hn,hst,_,hev⟩:=runW_trace ops.toList 0 S.H.length F F1 (padSt S (floats ops.toList)) S1 es hr
  have hn':tr ops.size = (F1,S1):=by simpa using hn
  have T:Tr C E.call E.nv nt (E.dyn id) ops S.H.length tr evs:={
   reg:=hreg
   ext:=hcall.ext
   step:=fun k o ho=>hst k o (by simpa using ho)
   evs:=fun k k' e e' h1 h2 h3 h4=>by
    have:=hev _ hcl k k' e e' h1 (by simpa using h2) h3 h4
    simpa using this
   pad:=fun b h1 h2=>by
    rw [h0]
    show lget b (padSt S _).H = _
    rw [padSt_H,pad_get,if_neg (by omega),if_pos h2]
   len:=by
    rw [h0]
    show (padSt S _).H.length = _
    rw [padSt_H,List.length_append,pads_len] }
  refine wpj_region_any hmix fun w₁ h₁=>?_
  have hrs:=h₁.stp β S.H
  replace hH:=hH.rely h₁
  obtain ⟨p1,p2⟩:=(hH.drew).pad (floats ops.toList)
  have hs0:=(hrs.trans (Stp.drew β S.H w₁)).trans p2
  have hlast:∀ Ch n,last (fun k=>(Array.replicate ops.size false).getD k false = true) Ch n = 0:=by
   intro Ch n
   induction n with
   | zero=>rfl
   | succ n ih=>
    simp only [last]
    rw [if_neg,ih]
    rintro ⟨h1,_⟩
    simp only [Array.getD_eq_getD_getElem?] at h1
    rw [Array.getElem?_replicate] at h1
    split at h1 <;> simp at h1
  have hnot:∀ k,¬ ((Array.replicate ops.size false).getD k false = true):=by
   intro k h1
   simp only [Array.getD_eq_getD_getElem?] at h1
   rw [Array.getElem?_replicate] at h1
   split at h1 <;> simp at h1
  refine any_order hG hcall hm T (by rw [hn'];exact ok) rfl (β0:=β) (H0:=S.H) (w0:=w) (fun a' w' β' q1 q2 q3=>?_) ops.size _ β a w₁.drew (S.H ++ pads (floats ops.toList)) (by simp) ?_ ?_
  ·rw [hn'] at q1 q2 q3
   exact hQ a' w' β' (q1.keep _) q2 q3
  ·have:=List.count_le_length (l:=(Array.replicate ops.size false).toList) (a:=false)
   simp
  ·refine ⟨fun i o ho hi=>absurd hi (hnot i),fun t=>?_,hF.size,hF.defers,fun b=>?_,p1,fun k o ho hf _=>?_,fun k o ho hf kk hkk ha=>?_,hs0⟩
   ·rw [hlast,h0];exact hF.val t
   ·rw [hlast,h0,← padSt_H]
   ·cases hb:β (Tr.nm ops S.H.length k) with
    | none=>rfl
    | some L=>have:=hH.dom _ L hb;have:=Tr.nm_ge (ops:=ops) (base:=S.H.length) k;omega
   ·exfalso
    rw [pad_get,if_neg (by have:=Tr.nm_ge (ops:=ops) (base:=S.H.length) k;omega),if_pos (Tr.nm_bound ho hf)] at hkk
    injection hkk with hkk;subst hkk;exact ha rfl
end
end
section
variable [RowAddr] [Co]
open Region
structure ExtB (B:Nat) (S S':St):Prop where
 ok:S'.ok → S.ok
 low:S'.low ≤ S.low
 len:S.H.length ≤ S'.H.length
 same:∀ b,b < B → b < S'.low → lget b S'.H = lget b S.H
 dead:∀ b k,b < B → lget b S.H = some k → k.mode = .dead → lget b S'.H = some k
 ro:∀ b k,lget b S'.H = some k → k.mode = .ro → lget b S.H = some k
theorem ExtB.trans {B:Nat} {a b c:St} (h:ExtB B a b) (k:ExtB B b c):ExtB B a c:=
 ⟨fun o=>h.ok (k.ok o),Nat.le_trans k.low h.low,Nat.le_trans h.len k.len,fun x hx hl=>(k.same x hx hl).trans (h.same x hx (Nat.lt_of_lt_of_le hl k.low)),
  fun x y hb hx hy=>k.dead x y hb (h.dead x y hb hx hy) hy,fun x y hx hy=>h.ro x y (k.ro x y hx hy) hy⟩
theorem Ext.toB {B:Nat} {S S':St} (h:Ext S S') (hB:B ≤ S.H.length):ExtB B S S':=
 ⟨h.ok,h.low,h.len,fun b hb hl=>h.same b (by omega) hl,fun b k _=>h.dead b k,h.ro⟩
section
variable {C:Cfg} {call:CallF} {nv:Nat} {dyn:Bool} {ops:List Oper}
theorem stepW_ext (hc:CallExt call) {nm B:Nat} {o:Oper} {F F':Fr} {S S':St} {e:Option Ev} (h:stepW C call nv dyn ops nm o F S = some (F',S',e)) (hB:B ≤ S.H.length) (hn:B ≤ nm):ExtB B S S':=by
 obtain ⟨b,S1,hg,hp,h | h | h⟩:=stepW_inv h
 ·obtain ⟨_,_,h⟩:=h
  rw [h];exact hp.ext.toB hB
 ·obtain ⟨_,hf,v,hv,_⟩:=h
  obtain ⟨⟨k,hk,h1⟩,h2⟩:=floatE_H hv
  have hlow:S'.low = S1.low:=by
   unfold floatE at hv
   split at hv
   ·split at hv
    ·simp only [Option.some.injEq,Prod.mk.injEq] at hv;obtain ⟨_,rfl⟩:=hv;rfl
    ·cases hv
   ·split at hv
    case h_2=>cases hv
    rename_i y S2 hm
    split at hv
    case h_2=>cases hv
    simp only [Option.some.injEq,Prod.mk.injEq] at hv;obtain ⟨_,rfl⟩:=hv
    unfold makeSliceOp at hm
    repeat' (split at hm)
    all_goals (try (cases hm;done))
    simp only [Option.some.injEq,Prod.mk.injEq] at hm;obtain ⟨_,rfl⟩:=hm
    have h1:=Go.Eng.B.claim_spec ‹Go.Eng.B.claim (N.fits _) _ = some _›
    have h2:=Go.Eng.B.claim_spec ‹Go.Eng.B.claim (ordered _ _ _) _ = some _›
    exact (h2.1.trans h1.1).low
   ·split at hv
    case h_2=>cases hv
    rename_i y S2 hm
    split at hv
    case h_2=>cases hv
    simp only [Option.some.injEq,Prod.mk.injEq] at hv;obtain ⟨_,rfl⟩:=hv
    unfold buildSliceOp at hm
    repeat' (split at hm)
    all_goals (try (cases hm;done))
    simp only [Option.some.injEq,Prod.mk.injEq] at hm;obtain ⟨_,rfl⟩:=hm
    rfl
   ·cases hv
  refine (hp.ext.toB hB).trans ⟨h2,by rw [hlow];exact Nat.le_refl _,by rw [h1,lset_eq,List.length_set];exact Nat.le_refl _,fun b hb _=>?_,fun b kk hb hkk hm=>?_,fun b kk hkk hm=>?_⟩
  ·rw [h1,lget_lset,if_neg (by omega)]
  ·rw [h1,lget_lset,if_neg (by omega)];exact hkk
  ·rw [h1,lget_lset] at hkk
   split at hkk
   ·injection hkk with hkk;subst hkk;rw [hk] at hm;cases hm
   ·exact hkk
 ·obtain ⟨_,hf,v,S2,hv,hS,_,_⟩:=h
  have hx:=opE_ext hc hv
  refine (hp.ext.toB hB).trans ?_
  have hB1:B ≤ S1.H.length:=by rw [hp.H];exact hB
  subst hS
  refine ⟨fun o=>(lowB_ok S1).1 (hx.ok ((lowA_ok S1 S2).1 o)),?_,by rw [lowA_H];have:=hx.len;rw [lowB_H] at this;exact this,fun b hb hl=>?_,fun b k hb hk hm=>?_,fun b k hk hm=>?_⟩
  ·cases dyn with
   | true=>exact Nat.min_le_left _ _
   | false=>exact hx.low
  ·rw [lowA_H]
   have hl2:b < S2.low:=by
    cases dyn with
    | true=>exact Nat.lt_of_lt_of_le hl (Nat.min_le_right _ _)
    | false=>exact hl
   have:=hx.same b (by rw [lowB_H];omega) hl2
   rw [lowB_H] at this;exact this
  ·rw [lowA_H];exact hx.dead b k (by rw [lowB_H];exact hk) hm
  ·rw [lowA_H] at hk
   have:=hx.ro b k hk hm
   rw [lowB_H] at this;exact this
theorem runW_ext (hc:CallExt call) {B:Nat}:∀ (r:List Oper) (i nm:Nat) (F F':Fr) (S S':St) (es:List (Nat × Ev)),runW C call nv dyn ops r i nm F S = some (F',S',es) → B ≤ S.H.length → B ≤ nm → ExtB B S S':=by
 intro r
 induction r with
 | nil=>
  intro i nm F F' S S' es h hB hn
  simp only [runW,Option.some.injEq,Prod.mk.injEq] at h
  obtain ⟨_,rfl,_⟩:=h;exact (Ext.refl _).toB hB
 | cons o r ih=>
  intro i nm F F' S S' es h hB hn
  simp only [runW] at h
  split at h
  ·cases h
  rename_i F1 S1 e1 hs
  split at h
  ·cases h
  rename_i F2 S2 es2 hr
  simp only [Option.some.injEq,Prod.mk.injEq] at h
  obtain ⟨rfl,rfl,rfl⟩:=h
  have h1:=stepW_ext hc hs hB hn
  refine h1.trans (ih _ _ _ _ _ _ _ hr (Nat.le_trans hB h1.len) ?_)
  unfold nextNm;cases isFloat o.op <;> simp <;> omega
end
theorem regionE_ext {C:Cfg} [ExtOk C] {E:Env} (hc:CallExt E.call) {id:Nat} {ops:List Oper} {bef:Nat → Nat} {draw:Bool} {F F':Fr} {S S':St} {o:Out} (h:regionE C id ops bef draw E F S = some (o,F',S')):Ext S S':=by
 unfold regionE at h
 cases draw with
 | false=>
  simp only at h
  split at h
  case h_2=>cases h
  rename_i F1 S1 hr
  simp only [Option.some.injEq,Prod.mk.injEq] at h
  obtain ⟨rfl,rfl,rfl⟩:=h
  exact runOps_ext hc _ _ _ _ _ hr
 | true=>
  simp only at h
  split at h
  case h_2=>cases h
  rename_i F1 S1 es hr
  split at h
  ·cases h
  simp only [Option.some.injEq,Prod.mk.injEq] at h
  obtain ⟨rfl,rfl,rfl⟩:=h
  have hx:=runW_ext hc (B:=S.H.length) _ _ _ _ _ _ _ _ hr (by rw [padSt_H];simp) (Nat.le_refl _)
  refine ⟨fun o=>(padSt_ok S _).1 (hx.ok o),by have:=hx.low;rw [padSt_low] at this;exact this,?_,fun b hb hl=>?_,fun b k hk hm=>?_,fun b k hk hm=>?_⟩
  ·have:=hx.len;rw [padSt_H,List.length_append] at this;omega
  ·rw [hx.same b hb hl,padSt_H,pad_get,if_pos hb]
  ·have hb:=lget_lt hk
   exact hx.dead b k hb (by rw [padSt_H,pad_get,if_pos hb];exact hk) hm
  ·have:=hx.ro b k hk hm
   rw [padSt_H,pad_get] at this
   split at this
   ·exact this
   ·split at this
    ·injection this with this;subst this;cases hm
    ·cases this
def Out.ex:Out → Exit
 | .normal=>.normal
 | .exit id=>.exit id
 | .ret=>.ret
section
variable {G:Nat → Option (List AV)}
def RunOk (P:Program) (G:Nat → Option (List AV)) (nv nt:Nat) (c:Code) (f:Fr → St → Option (Out × Fr × St)):Prop:=
 ∀ F S o F' S',f F S = some (o,F',S') → Ext S S' ∧ (S'.ok → ∀ β a w,FRel nv nt β F a → HRel G β S.H w → ∀ Q:Exit → Act → World → Prop,
  (∀ a' w' β',FRel nv nt β' F' a' → HRel G β' S'.H w' → Stp β S.H w β' S'.H w' → Q o.ex a' w') → c.wpj P Q a w)
def codeOk (P:Program) (nt:Nat) (dyn:Nat → Bool):Nat → Code → Bool
 | 0,_=>false
 | n + 1,c=>
  match c with
  | .region id ops draw=>regOk P nt (dyn id) ops draw
  | .seq a b=>
   match codeOk P nt dyn n a with
   | true=>codeOk P nt dyn n b
   | false=>false
  | .cond _ a b=>
   match codeOk P nt dyn n a with
   | true=>codeOk P nt dyn n b
   | false=>false
  | .block _ b=>codeOk P nt dyn n b
  | .loop b=>codeOk P nt dyn n b
  | _=>true
def loopsOf:Nat → Code → List Code
 | 0,_=>[]
 | n + 1,c=>
  match c with
  | .seq a b=>loopsOf n a ++ loopsOf n b
  | .cond _ a b=>loopsOf n a ++ loopsOf n b
  | .block _ b=>loopsOf n b
  | .loop b=>b :: loopsOf n b
  | _=>[]
theorem lwp_loop_n {P:Program} {Q:Exit → Act → World → Prop} {c:Code} (I:Nat → Act → World → Prop) {n:Nat} {a:Act} {w:World} (h₀:I n a w)
 (round:∀ n a w,I n a w → c.wpj P (Exit.then (fun a' w'=>∃ m,m < n ∧ I m a' w') Q) a w):lwp P c Q a w:=by
 induction n using Nat.strongRecOn generalizing a w with
 | _ n ih=>
  refine lwp_once (wpj_mono (round n a w h₀) fun e a' w' q=>?_)
  cases e with
  | normal=>obtain ⟨m,hlt,hI⟩:=q;exact ih m hlt hI
  | exit id=>exact q
  | goto l=>exact q
  | ret=>exact q
  | panic ch=>exact q
  | outgrown=>exact q
def LoopOk (P:Program) (G:Nat → Option (List AV)) (nv nt:Nat) (c:Code) (f:Fr → St → Option (Out × Fr × St)):Prop:=
 ∀ F S o F' S',f F S = some (o,F',S') → Ext S S' ∧ (S'.ok → ∀ β a w,FRel nv nt β F a → HRel G β S.H w → ∀ Q:Exit → Act → World → Prop,
  (∀ a' w' β',FRel nv nt β' F' a' → HRel G β' S'.H w' → Stp β S.H w β' S'.H w' → Q o.ex a' w') → lwp P c Q a w)
theorem LoopOk.run {P:Program} {G:Nat → Option (List AV)} {nv nt:Nat} {c:Code} {f:Fr → St → Option (Out × Fr × St)} (h:LoopOk P G nv nt c f):RunOk P G nv nt (.loop c) f:=by
 intro F S o F' S' hf
 obtain ⟨h1,h2⟩:=h F S o F' S' hf
 exact ⟨h1,fun ok β a w hF hH Q hQ=>lwp_wp (h2 ok β a w hF hH Q hQ)⟩
def peel (f g:Fr → St → Option (Out × Fr × St)) (F:Fr) (S:St):Option (Out × Fr × St):=
 match f F S with
 | none=>none
 | some (o,F,S)=>
  match o with
  | .normal=>g F S
  | o=>some (o,F,S)
theorem LoopOk.peel {P:Program} {G:Nat → Option (List AV)} {nv nt:Nat} {c:Code} {f g:Fr → St → Option (Out × Fr × St)} (hb:RunOk P G nv nt c f) (hg:LoopOk P G nv nt c g):LoopOk P G nv nt c (peel f g):=by
 intro F S o F' S' h
 unfold Eng.peel at h
 split at h
 ·cases h
 rename_i o1 F1 S1 h1
 obtain ⟨x1,x2⟩:=hb _ _ _ _ _ h1
 cases o1 with
 | normal=>
  simp only at h
  obtain ⟨y1,y2⟩:=hg _ _ _ _ _ h
  refine ⟨x1.trans y1,fun ok β a w hF hH Q hQ=>lwp_once ?_⟩
  refine x2 (y1.ok ok) β a w hF hH _ fun a' w' β' q1 q2 q3=>?_
  exact y2 ok β' a' w' q1 q2 Q fun a'' w'' β'' r1 r2 r3=>hQ a'' w'' β'' r1 r2 (q3.trans r3)
 | exit i=>
  simp only [Option.some.injEq,Prod.mk.injEq] at h
  obtain ⟨rfl,rfl,rfl⟩:=h
  exact ⟨x1,fun ok β a w hF hH Q hQ=>lwp_once (x2 ok β a w hF hH _ fun a' w' β' q1 q2 q3=>hQ a' w' β' q1 q2 q3)⟩
 | ret=>
  simp only [Option.some.injEq,Prod.mk.injEq] at h
  obtain ⟨rfl,rfl,rfl⟩:=h
  exact ⟨x1,fun ok β a w hF hH Q hQ=>lwp_once (x2 ok β a w hF hH _ fun a' w' β' q1 q2 q3=>hQ a' w' β' q1 q2 q3)⟩
variable {C:Cfg} [ExtOk C] {nt:Nat}
theorem exec_eq (n:Nat) (c:Code) (E:Env) (F:Fr) (S:St):(match execF C n c with | ⟨f⟩=>f E F S) = exec C n c E F S:=rfl
theorem loop_ok {E:Env} {x:Code} (hno:(firstRid x).bind E.lo = none):∀ (n:Nat),(∀ m,m < n → RunOk C.P G E.nv nt x (exec C m x E)) →
 ∀ F S o F' S',exec C n (.loop x) E F S = some (o,F',S') → Ext S S' ∧ (S'.ok → ∀ β a w,FRel E.nv nt β F a → HRel G β S.H w → ∀ Q:Exit → Act → World → Prop,
  (∀ a' w' β',FRel E.nv nt β' F' a' → HRel G β' S'.H w' → Stp β S.H w β' S'.H w' → Q o.ex a' w') → lwp C.P x Q a w):=by
 intro n
 induction n with
 | zero=>intro _ F S o F' S' h;simp [exec,execF] at h
 | succ n ih=>
  intro hb F S o F' S' h
  simp only [exec,execF,loopE,exec_eq,hno] at h
  split at h
  ·cases h
  rename_i o1 F1 S1 h1
  obtain ⟨x1,x2⟩:=hb n (Nat.lt_succ_self n) _ _ _ _ _ h1
  cases o1 with
  | normal=>
   simp only at h
   obtain ⟨y1,y2⟩:=ih (fun m hm=>hb m (Nat.lt_succ_of_lt hm)) _ _ _ _ _ h
   refine ⟨x1.trans y1,fun ok β a w hF hH Q hQ=>lwp_once ?_⟩
   refine x2 (y1.ok ok) β a w hF hH _ fun a' w' β' q1 q2 q3=>?_
   exact y2 ok β' a' w' q1 q2 Q fun a'' w'' β'' r1 r2 r3=>hQ a'' w'' β'' r1 r2 (q3.trans r3)
  | exit i=>
   simp only [Option.some.injEq,Prod.mk.injEq] at h
   obtain ⟨rfl,rfl,rfl⟩:=h
   exact ⟨x1,fun ok β a w hF hH Q hQ=>lwp_once (x2 ok β a w hF hH _ fun a' w' β' q1 q2 q3=>hQ a' w' β' q1 q2 q3)⟩
  | ret=>
   simp only [Option.some.injEq,Prod.mk.injEq] at h
   obtain ⟨rfl,rfl,rfl⟩:=h
   exact ⟨x1,fun ok β a w hF hH Q hQ=>lwp_once (x2 ok β a w hF hH _ fun a' w' β' q1 q2 q3=>hQ a' w' β' q1 q2 q3)⟩
theorem exec_ok (hG:C.glob = G) {E:Env} (hcall:CallOk C.P G E.call) (hm:MethOk C.P C.meth) (hmix:C.P.follows .mixedOrders = true) :
 ∀ (n m:Nat) (c:Code),codeOk C.P nt E.dyn m c = true → (∀ k,∀ b ∈ loopsOf k c,∀ sp,(firstRid b).bind E.lo = some sp → RunOk C.P G E.nv nt (.loop b) sp) → RunOk C.P G E.nv nt c (exec C n c E):=by
 intro n
 induction n using Nat.strongRecOn with
 | _ n' ihs=>
  intro m c hc hl F S o F' S' h
  cases n' with
  | zero=>simp [exec,execF] at h
  | succ n=>
  have ih:=ihs n (Nat.lt_succ_self n)
  cases m with
  | zero=>simp [codeOk] at hc
  | succ m=>
  cases c with
  | skip=>
   simp only [exec,execF,Option.some.injEq,Prod.mk.injEq] at h
   obtain ⟨rfl,rfl,rfl⟩:=h
   exact ⟨Ext.refl _,fun ok β a w hF hH Q hQ=>wpj_skip (hQ a w β hF hH (Stp.refl ..))⟩
  | exit id=>
   simp only [exec,execF,Option.some.injEq,Prod.mk.injEq] at h
   obtain ⟨rfl,rfl,rfl⟩:=h
   exact ⟨Ext.refl _,fun ok β a w hF hH Q hQ=>wpj_exit (hQ a w β hF hH (Stp.refl ..))⟩
  | ret=>
   simp only [exec,execF,Option.some.injEq,Prod.mk.injEq] at h
   obtain ⟨rfl,rfl,rfl⟩:=h
   exact ⟨Ext.refl _,fun ok β a w hF hH Q hQ=>wpj_ret (hQ a w β hF hH (Stp.refl ..))⟩
  | region id ops draw=>
   simp only [exec,execF] at h
   simp only [codeOk] at hc
   refine ⟨regionE_ext hcall.ext h,fun ok β a w hF hH Q hQ=>?_⟩
   obtain ⟨rfl,_⟩:=region_wp hG hcall hm hmix rfl rfl hc h ok hF hH (Q:=fun _ _ _=>True) (fun _ _ _ _ _ _=>trivial)
   exact (region_wp hG hcall hm hmix rfl rfl hc h ok hF hH (Q:=Q) hQ).2
  | seq x y=>
   simp only [exec,execF,seqE,exec_eq] at h
   simp only [codeOk] at hc
   split at hc
   case h_2=>cases hc
   rename_i hcx
   have ihx:=ih m x hcx (fun k b hb sp hsp=>hl (k + 1) b (by simp [loopsOf,hb]) sp hsp)
   have ihy:=ih m y hc (fun k b hb sp hsp=>hl (k + 1) b (by simp [loopsOf,hb]) sp hsp)
   split at h
   ·cases h
   rename_i o1 F1 S1 h1
   obtain ⟨x1,x2⟩:=ihx _ _ _ _ _ h1
   cases o1 with
   | normal=>
    simp only at h
    obtain ⟨y1,y2⟩:=ihy _ _ _ _ _ h
    refine ⟨x1.trans y1,fun ok β a w hF hH Q hQ=>wpj_seq ?_⟩
    refine x2 (y1.ok ok) β a w hF hH _ fun a' w' β' q1 q2 q3=>?_
    exact y2 ok β' a' w' q1 q2 Q fun a'' w'' β'' r1 r2 r3=>hQ a'' w'' β'' r1 r2 (q3.trans r3)
   | exit i=>
    simp only [Option.some.injEq,Prod.mk.injEq] at h
    obtain ⟨rfl,rfl,rfl⟩:=h
    refine ⟨x1,fun ok β a w hF hH Q hQ=>wpj_seq ?_⟩
    exact x2 ok β a w hF hH _ fun a' w' β' q1 q2 q3=>hQ a' w' β' q1 q2 q3
   | ret=>
    simp only [Option.some.injEq,Prod.mk.injEq] at h
    obtain ⟨rfl,rfl,rfl⟩:=h
    refine ⟨x1,fun ok β a w hF hH Q hQ=>wpj_seq ?_⟩
    exact x2 ok β a w hF hH _ fun a' w' β' q1 q2 q3=>hQ a' w' β' q1 q2 q3
  | cond t x y=>
   simp only [exec,execF,condE,exec_eq] at h
   simp only [codeOk] at hc
   split at hc
   case h_2=>cases hc
   rename_i hcx
   have ihx:=ih m x hcx (fun k b hb sp hsp=>hl (k + 1) b (by simp [loopsOf,hb]) sp hsp)
   have ihy:=ih m y hc (fun k b hb sp hsp=>hl (k + 1) b (by simp [loopsOf,hb]) sp hsp)
   split at h
   case h_2=>cases h
   rename_i bb hbb
   have hval:∀ β a,FRel E.nv nt β F a → a.eval t = .bool bb.v:=by
    intro β a hF
    have:=hF.ev t
    rw [hbb] at this
    exact this.bool_inv
   split at h
   ·rename_i S1 ht
    obtain ⟨hp,hv⟩:=B.test_spec ht
    obtain ⟨x1,x2⟩:=ihx _ _ _ _ _ h
    refine ⟨hp.ext.trans x1,fun ok β a w hF hH Q hQ=>?_⟩
    refine wpj_cond_true (by rw [hval β a hF,hv (x1.ok ok)]) ?_
    refine x2 ok β a w hF (by rw [hp.H];exact hH) Q fun a' w' β' q1 q2 q3=>hQ a' w' β' q1 q2 (by rw [hp.H] at q3;exact q3)
   ·rename_i S1 ht
    obtain ⟨hp,hv⟩:=B.test_spec ht
    obtain ⟨x1,x2⟩:=ihy _ _ _ _ _ h
    refine ⟨hp.ext.trans x1,fun ok β a w hF hH Q hQ=>?_⟩
    refine wpj_cond_false (by rw [hval β a hF,hv (x1.ok ok)]) ?_
    refine x2 ok β a w hF (by rw [hp.H];exact hH) Q fun a' w' β' q1 q2 q3=>hQ a' w' β' q1 q2 (by rw [hp.H] at q3;exact q3)
   ·cases h
  | block id x=>
   simp only [exec,execF,blockE,exec_eq] at h
   simp only [codeOk] at hc
   have ihx:=ih m x hc (fun k b hb sp hsp=>hl (k + 1) b (by simp [loopsOf,hb]) sp hsp)
   split at h
   ·cases h
   rename_i o1 F1 S1 h1
   obtain ⟨x1,x2⟩:=ihx _ _ _ _ _ h1
   cases o1 with
   | exit i=>
    simp only at h
    split at h
    ·rename_i hb
     have hi:i = id:=by simpa using hb
     simp only [Option.some.injEq,Prod.mk.injEq] at h
     obtain ⟨rfl,rfl,rfl⟩:=h
     refine ⟨x1,fun ok β a w hF hH Q hQ=>wpj_block (x2 ok β a w hF hH _ fun a' w' β' q1 q2 q3=>?_)⟩
     show Exit.inBlock id Q (.exit i) a' w'
     simp only [Exit.inBlock,hi,if_true]
     exact hQ a' w' β' q1 q2 q3
    ·rename_i hb
     have hi:i ≠ id:=by intro e;subst e;simp at hb
     simp only [Option.some.injEq,Prod.mk.injEq] at h
     obtain ⟨rfl,rfl,rfl⟩:=h
     refine ⟨x1,fun ok β a w hF hH Q hQ=>wpj_block (x2 ok β a w hF hH _ fun a' w' β' q1 q2 q3=>?_)⟩
     show Exit.inBlock id Q (.exit i) a' w'
     simp only [Exit.inBlock,hi,if_false]
     exact hQ a' w' β' q1 q2 q3
   | normal=>
    simp only [Option.some.injEq,Prod.mk.injEq] at h
    obtain ⟨rfl,rfl,rfl⟩:=h
    exact ⟨x1,fun ok β a w hF hH Q hQ=>wpj_block (x2 ok β a w hF hH _ fun a' w' β' q1 q2 q3=>hQ a' w' β' q1 q2 q3)⟩
   | ret=>
    simp only [Option.some.injEq,Prod.mk.injEq] at h
    obtain ⟨rfl,rfl,rfl⟩:=h
    exact ⟨x1,fun ok β a w hF hH Q hQ=>wpj_block (x2 ok β a w hF hH _ fun a' w' β' q1 q2 q3=>hQ a' w' β' q1 q2 q3)⟩
  | loop x=>
   cases hsp:(firstRid x).bind E.lo with
   | some sp=>
    simp only [exec,execF,loopE,hsp] at h
    exact hl 1 x (by simp [loopsOf]) sp hsp F S o F' S' h
   | none=>
    have hcx:codeOk C.P nt E.dyn m x = true:=by simpa only [codeOk] using hc
    obtain ⟨y1,y2⟩:=loop_ok (G:=G) (nt:=nt) hsp (n + 1) (fun k hk=>ihs k hk m x hcx (fun j b hb sp hsp=>hl (j + 1) b (by simp [loopsOf,hb]) sp hsp)) F S o F' S' h
    exact ⟨y1,fun ok β a w hF hH Q hQ=>lwp_wp (y2 ok β a w hF hH Q hQ)⟩
  | _=>simp [exec,execF] at h
end
end
section
variable [RowAddr] [Co]
open Region
section
variable {P:Program} {G:Nat → Option (List AV)} {β:Map} {w:World}
theorem loadOp_cell {t:TypeId} {a x:AV} {va:Value} {S S':St} (h:loadOp P G t a S = some (x,S')) (ha:VRel β a va) (hH:HRel G β S.H w) :
 S'.ok → ∃ p v,va = .pointer (some p) ∧ VRel β x v ∧ ∀ w₁,Rely w w₁ → (loadVar t p).runQ P w₁ = .ok v w₁:=by
 unfold loadOp at h
 cases hg:isAggT P t with
 | none=>simp [hg] at h
 | some b=>
  cases b with
  | true=>
   simp only [hg] at h
   cases hs:sizeT P t with
   | none=>simp [hs] at h
   | some n=>
    simp only [hs] at h
    cases hr:readCells G a n S with
    | none=>simp [hr] at h
    | some r=>
     obtain ⟨l,S2⟩:=r
     simp only [hr,Option.some.injEq,Prod.mk.injEq] at h
     obtain ⟨rfl,rfl⟩:=h
     intro ok
     obtain ⟨p,vs,rfl,hl,hlen,hc,hmay⟩:=(readCells_spec hH ha hr).2 ok
     have hvl:vs.length = n:=by rw [← hl.1,hlen]
     have:=runQ_loadCells_list P w p vs hc (by rw [hvl];exact hmay)
     rw [hvl] at this
     refine ⟨p,.agg ⟨vs⟩,rfl,VRel.aggL hl,fun w₁ h₁=>?_⟩
     have:=runQ_loadCells_list P w₁ p vs (fun j v hv=>by
      have h1:=hc j v hv
      have hm:=hmay j (by rw [← hvl];exact (List.getElem?_eq_some_iff.1 hv).1)
      generalize p.add j = q at h1 hm ⊢
      obtain ⟨c,o,s⟩:=q
      have:s = none:=hm.1
      subst this
      exact h₁.cell hm h1) (by rw [hvl];exact hmay)
     rw [hvl] at this
     simp [loadVar,isAggT_spec hg w₁,sizeT_spec hs w₁,this]
  | false=>
   simp only [hg] at h
   obtain ⟨hp,hx⟩:=readCell_spec hH ha h
   intro ok
   obtain ⟨p,v,rfl,hc,hv,hmay⟩:=hx ok
   refine ⟨p,v,rfl,hv,fun w₁ h₁=>?_⟩
   have hc':w₁.cell? p = some v:=by
    obtain ⟨c,o,s⟩:=p
    have:s = none:=hmay.1
    subst this
    exact h₁.cell hmay hc
   simp [loadVar,isAggT_spec hg w₁,runQ_load P w₁ hc' hmay]
theorem loadOp_pure {t:TypeId} {a x:AV} {S S':St} (h:loadOp P G t a S = some (x,S')):Pure S S':=
 pure_of_re (f:=loadOp P G t a) (fun T cs e _=>loadOp_re P G t a (fun b _=>by rw [e])) h
def resultOf (tmps:Array Value):ResultVar → Sem Value
 | .tmp t=>pure (tmps.getD t undef)
 | .cell a t=>do loadVar t (← asAddr (tmps.getD a undef))
theorem results_eq (fn:Func) (tmps:Array Value):results fn tmps = (fn.results.mapM (resultOf tmps) >>= fun vs=>pure (if h:vs.size = 1 then vs[0] else .tuple vs)):=by
 unfold results
 congr 1
end
section
variable {C:Cfg} [ExtOk C] {G:Nat → Option (List AV)}
theorem resultVals_ok (hG:C.glob = G) {nv nt:Nat} {F:Fr}:∀ (rs:List ResultVar) (S S':St) (vs:List AV),resultVals C nv F S rs = some (vs,S') →
 Pure S S' ∧ (S'.ok → ∀ β a w,FRel nv nt β F a → HRel G β S.H w → ∃ us,LRel β vs us ∧ ∀ w₁,Rely w w₁ → (rs.mapM (resultOf a.tmps)).runQ C.P w₁ = .ok us w₁):=by
 intro rs
 induction rs with
 | nil=>
  intro S S' vs h
  simp only [resultVals,Option.some.injEq,Prod.mk.injEq] at h
  obtain ⟨rfl,rfl⟩:=h
  exact ⟨Pure.refl _,fun _ β a w _ _=>⟨[],LRel.nil β,fun w₁ _=>by simp [Sem.runQ,pure]⟩⟩
 | cons r rs ih=>
  intro S S' vs h
  simp only [resultVals] at h
  cases r with
  | tmp t=>
   dsimp only at h
   split at h
   ·cases h
   rename_i us S2 hr
   simp only [Option.some.injEq,Prod.mk.injEq] at h
   obtain ⟨rfl,rfl⟩:=h
   obtain ⟨hp,hq⟩:=ih _ _ _ hr
   refine ⟨hp,fun ok β a w hF hH=>?_⟩
   obtain ⟨us',h2,h1⟩:=hq ok β a w hF hH
   exact ⟨_ :: us',LRel.cons (hF.val t) h2,fun w₁ r₁=>by simp [List.mapM_cons,resultOf,h1 w₁ r₁]⟩
  | cell ad t=>
   dsimp only at h
   split at h
   ·cases h
   rename_i v S1 hv
   split at h
   ·cases h
   rename_i us S2 hr
   simp only [Option.some.injEq,Prod.mk.injEq] at h
   obtain ⟨rfl,rfl⟩:=h
   obtain ⟨hp,hq⟩:=ih _ _ _ hr
   have hp1:=loadOp_pure hv
   refine ⟨hp1.trans hp,fun ok β a w hF hH=>?_⟩
   obtain ⟨us',h2,h1⟩:=hq ok β a w hF (by rw [hp1.H];exact hH)
   rw [hG] at hv
   obtain ⟨p,u,e1,e3,e2⟩:=loadOp_cell hv (hF.val ad) hH (hp.ok ok)
   exact ⟨u :: us',LRel.cons e3 h2,fun w₁ r₁=>by simp [List.mapM_cons,resultOf,e1,asAddr,e2 w₁ r₁,h1 w₁ r₁]⟩
theorem resultVal_rel {β:Map} {vs:List AV} {us:List Value} (h:LRel β vs us):VRel β (resultVal vs) (if h:(⟨us⟩:Array Value).size = 1 then (⟨us⟩:Array Value)[0] else .tuple ⟨us⟩):=by
 have hl:=h.1
 unfold resultVal
 split
 ·rename_i v
  obtain ⟨u,us',rfl,h1,h2⟩:=h.cons_inv
  have:=h2.nil_inv;subst this
  simpa using h1
 ·rename_i hn
  have:¬ us.length = 1:=by
   intro e
   rw [e] at hl
   match vs,hl with
   | [v],_=>exact hn v rfl
  rw [dif_neg (by simpa using this)]
  exact VRel.tupL h
def fnOk (C:Cfg) (f:FuncId):Bool:=
 match C.P.funcs[f]? with
 | none=>false
 | some fn=>
  match fn.body with
  | none=>false
  | some c=>
   match fn.name == "runtime.NumGoroutine" with
   | true=>false
   | false=>codeOk C.P fn.ntmps (C.dyn f) 100000 c
def LoopsOk (C:Cfg) (G:Nat → Option (List AV)):Prop:=∀ f fn c,C.P.funcs[f]? = some fn → fn.body = some c → ∀ k,∀ b ∈ loopsOf k c,∀ sp,(firstRid b).bind (C.loop f) = some sp → RunOk C.P G (C.nv f) fn.ntmps (.loop b) sp
theorem callBody_ok (hG:C.glob = G) {call:CallF} (hcall:CallOk C.P G call) (hm:MethOk C.P C.meth) (hmix:C.P.follows .mixedOrders = true) (hfn:∀ f,C.scope f = true → fnOk C f = true) (hpl:∀ f,C.scope f = true → Co.plain f) (hl:LoopsOk C G) (fuel:Nat) :
 CallOk C.P G (callBody C fuel call):=by
 intro f args S v S' h
 unfold callBody at h
 split at h
 ·cases h
 rename_i fn hf
 split at h
 ·cases h
 rename_i c hc
 split at h
 ·cases h
 rename_i hs
 simp only [Bool.and_eq_true] at hs
 obtain ⟨hsc,hsz⟩:=hs
 have hok:=hfn f hsc
 unfold fnOk at hok
 simp only [hf,hc] at hok
 split at hok
 ·cases hok
 rename_i hname
 have hexec:=exec_ok (C:=C) (G:=G) (nt:=fn.ntmps) hG (E:=⟨call,C.nv f,C.keep f,C.dyn f,C.loop f⟩) hcall hm hmix fuel 100000 c hok (fun k b hb sp hsp=>hl f fn c hf hc k b hb sp hsp)
 have fin:∀ (o:Out) F1 S1,(o = .normal ∨ o = .ret) → exec C fuel c ⟨call,C.nv f,C.keep f,C.dyn f,C.loop f⟩ ⟨args ++ List.replicate (C.nv f - args.length) .undef,[]⟩ S = some (o,F1,S1) →
  (match resultVals C (C.nv f) F1 S1 fn.results.toList with | some (vs,S)=>some (resultVal vs,S) | none=>none) = some (v,S') →
  Ext S S' ∧ (S'.ok → ∀ β w vs,LRel β args vs → HRel G β S.H w → (∃ fn,C.P.funcs[f]? = some fn ∧ (fn.name == "runtime.NumGoroutine") = false ∧ fn.body.isSome = true) ∧
   CallsJ C.P f ⟨vs⟩ w fun e w'=>∃ u β',e = .returned u ∧ VRel β' v u ∧ HRel G β' S'.H w' ∧ Stp β S.H w β' S'.H w'):=by
  intro o F1 S1 ho h1 h2
  obtain ⟨x1,x2⟩:=hexec _ _ _ _ _ h1
  split at h2
  case h_2=>cases h2
  rename_i vs S2 hr
  simp only [Option.some.injEq,Prod.mk.injEq] at h2
  obtain ⟨rfl,rfl⟩:=h2
  obtain ⟨p1,p2⟩:=resultVals_ok (nt:=fn.ntmps) hG _ _ _ _ hr
  refine ⟨x1.trans p1.ext,fun ok β w us hargs hH=>⟨⟨fn,hf,hname,by simp [hc]⟩,callsJ_of_wp (hpl f hsc) hf hc ?_⟩⟩
  have hlen:us.length ≤ fn.ntmps:=by rw [← hargs.1];simpa using hsz
  refine x2 (p1.ok ok) β _ w ⟨fun t=>?_,?_,rfl⟩ hH _ fun a' w' β' q1 q2 q3=>?_
  ·simp only [Fr.get]
   cases hb:Nat.blt t (C.nv f) with
   | false=>exact .undef _
   | true=>
    simp only [lget_eq]
    rcases Nat.lt_or_ge t args.length with ht | ht
    ·have htu:t < us.length:=by rw [← hargs.1];exact ht
     rw [List.getElem?_append_left ht,List.getElem?_eq_getElem ht]
     simp only
     have e:((⟨us⟩:Array Value) ++ Array.replicate (fn.ntmps - (⟨us⟩:Array Value).size) undef).getD t undef = us[t]:=by
      simp [Array.getD_eq_getD_getElem?,Array.getElem?_append,htu]
     rw [e]
     exact hargs.2 t _ _ (List.getElem?_eq_getElem ht) (List.getElem?_eq_getElem htu)
    ·rw [List.getElem?_append_right ht]
     split
     ·rename_i x hx
      rw [List.getElem?_replicate] at hx
      split at hx
      ·injection hx with hx;subst hx;exact .undef _
      ·cases hx
     ·exact .undef _
  ·simp;omega
  ·obtain ⟨us',r2,r1⟩:=p2 ok β' a' w' q1 q2
   have hrun:∀ w₁,Rely w' w₁ → (results fn a'.tmps).runQ C.P w₁ = .ok (if h:(⟨us'⟩:Array Value).size = 1 then (⟨us'⟩:Array Value)[0] else .tuple ⟨us'⟩) w₁:=by
    intro w₁ h₁
    rw [results_eq,Array.mapM_eq_mapM_toList (m:=Sem)]
    simp [r1 w₁ h₁]
   have hfin:bodyPostJ C.P fn (fun e w'=>∃ u β',e = .returned u ∧ VRel β' (resultVal vs) u ∧ HRel G β' S2.H w' ∧ Stp β S.H w β' S2.H w') .normal a' w':=
    ⟨q1.defers,_,hrun,_,β',rfl,resultVal_rel r2,by rw [p1.H];exact q2,by rw [p1.H];exact q3⟩
   rcases ho with rfl | rfl
   ·exact hfin
   ·exact hfin
 split at h
 ·rename_i F1 S1 h1
  exact fin .normal F1 S1 (.inl rfl) h1 h
 ·rename_i F1 S1 h1
  exact fin .ret F1 S1 (.inr rfl) h1 h
 ·cases h
end
end
section
variable [RowAddr] [Co]
section
variable {C:Cfg} [ExtOk C] {G:Nat → Option (List AV)}
def SpecsOk (C:Cfg) (G:Nat → Option (List AV)):Prop:=∀ f sp,C.spec f = some sp → ∀ args S v S',callSpec sp args S = some (v,S') → Ext S S' ∧ (S'.ok → ∀ β w vs,LRel β args vs → HRel G β S.H w →
 (∃ fn,C.P.funcs[f]? = some fn ∧ (fn.name == "runtime.NumGoroutine") = false ∧ fn.body.isSome = true) ∧
 CallsJ C.P f ⟨vs⟩ w fun e w'=>∃ u β',e = .returned u ∧ VRel β' v u ∧ HRel G β' S'.H w' ∧ Stp β S.H w β' S'.H w')
theorem acall_ok (hG:C.glob = G) (hm:MethOk C.P C.meth) (hmix:C.P.follows .mixedOrders = true) (hfn:∀ f,C.scope f = true → fnOk C f = true) (hpl:∀ f,C.scope f = true → Co.plain f) (hl:LoopsOk C G) (hs:SpecsOk C G) (fuel:Nat) :
 ∀ d,CallOk C.P G (acall C d fuel):=by
 intro d
 induction d with
 | zero=>intro f args S v S' h;simp [acall] at h
 | succ d ih=>
  intro f args S v S' h
  simp only [acall] at h
  split at h
  ·rename_i sp hsp
   exact hs f sp hsp args S v S' h
  ·exact callBody_ok hG ih hm hmix hfn hpl hl fuel f args S v S' h
theorem LoopsOk.none (h:∀ f r,C.loop f r = none):LoopsOk C G:=fun f fn c _ _ k b _ sp hsp=>by
 cases hr:firstRid b with
 | none=>rw [hr] at hsp;cases hsp
 | some r=>rw [hr] at hsp;simp [h] at hsp
end
end
section
variable [RowAddr] [Co]
theorem idxGo_spec {b:Nat}:∀ {rs:List Nat} {i k:Nat},idxGo b rs i = some k → i ≤ k ∧ rs[k - i]? = some b
 | [],_,_,h=>by simp [idxGo] at h
 | x :: r,i,k,h=>by
  simp only [idxGo] at h
  split at h
  ·rename_i hb
   have hxb:x = b:=by simpa using hb
   injection h with h;subst h;subst hxb
   simp
  ·obtain ⟨h1,h2⟩:=idxGo_spec h
   refine ⟨by omega,?_⟩
   have:k - i = (k - (i + 1)) + 1:=by omega
   rw [this];simpa using h2
theorem idx_spec {b:Nat} {rs:List Nat} {k:Nat} (h:idxGo b rs 0 = some k):rs[k]? = some b:=by
 have:=(idxGo_spec h).2;simpa using this
theorem nodupB_spec:∀ {l:List Nat},nodupB l = true → l.Nodup
 | [],_=>List.nodup_nil
 | x :: r,h=>by
  simp only [nodupB] at h
  split at h
  ·cases h
  ·rename_i he
   rw [List.nodup_cons]
   refine ⟨fun hm=>?_,nodupB_spec h⟩
   rw [(elemN_iff x r).2 hm] at he;cases he
theorem renL_map (f:Nat → Nat):∀ l:List AV,renL f l = l.map (renV f)
 | []=>by simp [renL]
 | v :: r=>by simp [renL,renL_map f r]
theorem toL_get {rs:List Nat}:∀ {l l':List AV},toL rs l = some l' → l'.length = l.length ∧ ∀ (i:Nat) x x',l[i]? = some x → l'[i]? = some x' → toV rs x = some x'
 | [],l',h=>by simp [toL] at h;subst h;exact ⟨rfl,fun i x x' hx=>by simp at hx⟩
 | v :: r,l',h=>by
  simp only [toL] at h
  split at h
  ·rename_i v' hv
   split at h
   ·rename_i r' hr
    injection h with h;subst h
    obtain ⟨h1,h2⟩:=toL_get hr
    refine ⟨by simp [h1],fun i x x' hx hx'=>?_⟩
    cases i with
    | zero=>simp at hx hx';subst hx hx';exact hv
    | succ i=>exact h2 i x x' (by simpa using hx) (by simpa using hx')
   ·cases h
  ·cases h
section
variable {β β1 β':Map} {rs:List Nat}
def inner (β:Map) (rs:List Nat):Map:=fun i=>match rs[i]? with | some b=>β b | none=>none
theorem inner_get {i b:Nat} (h:rs[i]? = some b):inner β rs i = β b:=by simp [inner,h]
theorem toV_rel {x:AV} {v:Value} (hv:VRel β x v):∀ {x':AV},toV rs x = some x' → VRel (inner β rs) x' v:=by
 induction hv with
 | undef v=>intro x' h;simp only [toV,Option.some.injEq] at h;subst h;exact .undef v
 | bool b=>intro x' h;simp only [toV,Option.some.injEq] at h;subst h;exact .bool b
 | str s=>intro x' h;simp only [toV,Option.some.injEq] at h;subst h;exact .str s
 | nilp=>intro x' h;simp only [toV,Option.some.injEq] at h;subst h;exact .nilp
 | nils=>intro x' h;simp only [toV,Option.some.injEq] at h;subst h;exact .nils
 | nili=>intro x' h;simp only [toV,Option.some.injEq] at h;subst h;exact .nili
 | nilf=>intro x' h;simp only [toV,Option.some.injEq] at h;subst h;exact .nilf
 | exact u=>intro x' h;simp only [toV,Option.some.injEq] at h;subst h;exact .exact u
 | num n=>intro x' h;simp only [toV,Option.some.injEq] at h;subst h;exact .num n
 | ptr b o L hb=>
  intro x' h
  simp only [toV,toR] at h
  cases hi:idxGo b rs 0 with
  | none=>simp [hi] at h
  | some i=>
   simp only [hi,Option.some.injEq] at h;subst h
   exact .ptr i o L (by rw [inner_get (idx_spec hi)];exact hb)
 | gp g o=>
  intro x' h
  simp only [toV,toR,Option.some.injEq] at h;subst h;exact .gp g o
 | gs g o l cp hl=>
  intro x' h
  simp only [toV,toR,Option.some.injEq] at h;subst h;exact .gs g o l cp hl
 | sm b l s a cp h1 h3=>
  intro x' h
  simp only [toV,toR] at h
  cases hi:idxGo b rs 0 with
  | none=>simp [hi] at h
  | some i=>
   simp only [hi,Option.some.injEq] at h;subst h
   refine .sm i l s a cp h1 ?_
   rcases h3 with h3 | ⟨L,hL,h3⟩
   ·exact .inl h3
   ·exact .inr ⟨L,by rw [inner_get (idx_spec hi)];exact hL,h3⟩
 | sl b o l cap a cp h1 h2 h3=>
  intro x' h
  simp only [toV,toR] at h
  cases hi:idxGo b rs 0 with
  | none=>simp [hi] at h
  | some i=>
   simp only [hi,Option.some.injEq] at h;subst h
   refine .sl i o l cap a cp h1 h2 ?_
   rcases h3 with h3 | ⟨L,hL,h3⟩
   ·exact .inl h3
   ·exact .inr ⟨L,by rw [inner_get (idx_spec hi)];exact hL,h3⟩
 | agg xs vs hl h ih=>
  intro x' hx
  simp only [toV] at hx
  split at hx
  ·rename_i xs' hxs
   injection hx with hx;subst hx
   obtain ⟨h1,h2⟩:=toL_get hxs
   refine .agg xs' vs (h1.trans hl) fun i y v hy hv=>?_
   have hi:i < xs.length:=by
    rcases Nat.lt_or_ge i xs.length with h | h
    ·exact h
    ·rw [List.getElem?_eq_none (by omega)] at hy;cases hy
   exact ih i _ v (List.getElem?_eq_getElem hi) hv (h2 i _ y (List.getElem?_eq_getElem hi) hy)
  ·cases hx
 | tup xs vs hl h ih=>
  intro x' hx
  simp only [toV] at hx
  split at hx
  ·rename_i xs' hxs
   injection hx with hx;subst hx
   obtain ⟨h1,h2⟩:=toL_get hxs
   refine .tup xs' vs (h1.trans hl) fun i y v hy hv=>?_
   have hi:i < xs.length:=by
    rcases Nat.lt_or_ge i xs.length with h | h
    ·exact h
    ·rw [List.getElem?_eq_none (by omega)] at hy;cases hy
   exact ih i _ v (List.getElem?_eq_getElem hi) hv (h2 i _ y (List.getElem?_eq_getElem hi) hy)
  ·cases hx
 | ifc t x v h ih=>
  intro x' hx
  simp only [toV,toL] at hx
  cases hy:toV rs x with
  | none=>simp [hy] at hx
  | some y=>
   simp only [hy,Option.some.injEq] at hx;subst hx
   exact .ifc t y v (ih hy)
 | fn f n xs first captured hn hl h ih=>
  intro x' hx
  simp only [toV] at hx
  split at hx
  ·rename_i xs' hxs
   injection hx with hx;subst hx
   obtain ⟨h1,h2⟩:=toL_get hxs
   refine .fn f n xs' first captured hn (h1.trans hl) fun i y v hy hv=>?_
   have hi:i < xs.length:=by
    rcases Nat.lt_or_ge i xs.length with h | h
    ·exact h
    ·rw [List.getElem?_eq_none (by omega)] at hy;cases hy
   exact ih i _ v (List.getElem?_eq_getElem hi) hv (h2 i _ y (List.getElem?_eq_getElem hi) hy)
  ·cases hx
theorem toL_rel {xs xs':List AV} {vs:List Value} (h:LRel β xs vs) (hx:toL rs xs = some xs'):LRel (inner β rs) xs' vs:=by
 obtain ⟨h1,h2⟩:=toL_get hx
 refine ⟨h1.trans h.1,fun i y v hy hv=>?_⟩
 have hi:i < xs.length:=by
  rcases Nat.lt_or_ge i xs.length with h | h
  ·exact h
  ·rw [List.getElem?_eq_none (by omega)] at hy;cases hy
 exact toV_rel (h.2 i _ v (List.getElem?_eq_getElem hi) hv) (h2 i _ y (List.getElem?_eq_getElem hi) hy)
theorem renV_rel {f:Nat → Nat} (hf:∀ i L,β1 i = some L → β' (f i) = some L) {x:AV} {v:Value} (hv:VRel β1 x v):VRel β' (renV f x) v:=by
 induction hv with
 | undef v=>exact .undef v
 | bool b=>exact .bool b
 | str s=>exact .str s
 | nilp=>exact .nilp
 | nils=>exact .nils
 | nili=>exact .nili
 | nilf=>exact .nilf
 | exact u=>exact .exact u
 | num n=>exact .num n
 | ptr b o L hb=>exact .ptr (f b) o L (hf b L hb)
 | gp g o=>exact .gp g o
 | gs g o l cp hl=>exact .gs g o l cp hl
 | sm b l s a cp h1 h3=>
  refine .sm (f b) l s a cp h1 ?_
  rcases h3 with h3 | ⟨L,hL,h3⟩
  ·exact .inl h3
  ·exact .inr ⟨L,hf b L hL,h3⟩
 | sl b o l cap a cp h1 h2 h3=>
  refine .sl (f b) o l cap a cp h1 h2 ?_
  rcases h3 with h3 | ⟨L,hL,h3⟩
  ·exact .inl h3
  ·exact .inr ⟨L,hf b L hL,h3⟩
 | agg xs vs hl h ih=>
  simp only [renV,renL_map]
  refine .agg _ vs (by simpa using hl) fun i y v hy hv=>?_
  rw [List.getElem?_map,Option.map_eq_some_iff] at hy
  obtain ⟨x,hx,rfl⟩:=hy
  exact ih i x v hx hv
 | tup xs vs hl h ih=>
  simp only [renV,renL_map]
  refine .tup _ vs (by simpa using hl) fun i y v hy hv=>?_
  rw [List.getElem?_map,Option.map_eq_some_iff] at hy
  obtain ⟨x,hx,rfl⟩:=hy
  exact ih i x v hx hv
 | ifc t x v h ih=>simp only [renV,renL];exact .ifc t _ v ih
 | fn g n xs first captured hn hl h ih=>
  simp only [renV,renL_map]
  refine .fn g n _ first captured hn (by simpa using hl) fun i y v hy hv=>?_
  rw [List.getElem?_map,Option.map_eq_some_iff] at hy
  obtain ⟨x,hx,rfl⟩:=hy
  exact ih i x v hx hv
theorem renL_rel {f:Nat → Nat} (hf:∀ i L,β1 i = some L → β' (f i) = some L) {xs:List AV} {vs:List Value} (h:LRel β1 xs vs):LRel β' (renL f xs) vs:=by
 rw [renL_map]
 refine ⟨by simpa using h.1,fun i y v hy hv=>?_⟩
 rw [List.getElem?_map,Option.map_eq_some_iff] at hy
 obtain ⟨x,hx,rfl⟩:=hy
 exact renV_rel hf (h.2 i x v hx hv)
theorem toL_pre {rs:List Nat} {t t':List AV} (h:toL rs t = some t'):∀ l:List Value,toL rs (l.map AV.exact ++ t) = some (l.map AV.exact ++ t')
 | []=>h
 | v :: l=>by
  show toL rs (AV.exact v :: (l.map AV.exact ++ t)) = some (AV.exact v :: (l.map AV.exact ++ t'))
  rw [toL,toL_pre h l];rfl
theorem renL_pre (f:Nat → Nat) (t:List AV):∀ l:List Value,renL f (l.map AV.exact ++ t) = l.map AV.exact ++ renL f t
 | []=>rfl
 | v :: l=>by
  show renL f (AV.exact v :: (l.map AV.exact ++ t)) = AV.exact v :: (l.map AV.exact ++ renL f t)
  rw [renL,renL_pre f t l];rfl
theorem toD_spec {d d':Data} (h:toD rs d = some d'):d'.len = d.len ∧ (∀ i x',d'.at i = some x' → ∃ x,d.at i = some x ∧ toV rs x = some x') ∧ (∀ {vs:List Value},LRel β d.list vs → LRel (inner β rs) d'.list vs):=by
 cases d with
 | gen l=>
  simp only [toD] at h
  split at h
  ·rename_i l' hl
   injection h with h;subst h
   obtain ⟨h1,h2⟩:=toL_get hl
   refine ⟨h1,fun i x' hx'=>?_,fun hv=>toL_rel hv hl⟩
   have hx':l'[i]? = some x':=hx'
   have hi:i < l.length:=by
    rcases Nat.lt_or_ge i l.length with h | h
    ·exact h
    ·rw [List.getElem?_eq_none (by omega)] at hx';cases hx'
   exact ⟨l[i],List.getElem?_eq_getElem hi,h2 i _ x' (List.getElem?_eq_getElem hi) hx'⟩
  ·cases h
 | kn u t=>
  simp only [toD] at h
  split at h
  ·rename_i t' ht
   injection h with h;subst h
   have hl:=toL_pre ht u
   obtain ⟨h1,h2⟩:=toL_get hl
   refine ⟨by simpa [Data.len] using h1,fun i x' hx'=>?_,fun hv=>toL_rel hv hl⟩
   have hx':(u.map AV.exact ++ t')[i]? = some x':=hx'
   have hi:i < (u.map AV.exact ++ t).length:=by
    rcases Nat.lt_or_ge i (u.map AV.exact ++ t).length with h | h
    ·exact h
    ·rw [List.getElem?_eq_none (by omega)] at hx';cases hx'
   exact ⟨(u.map AV.exact ++ t)[i],List.getElem?_eq_getElem hi,h2 i _ x' (List.getElem?_eq_getElem hi) hx'⟩
  ·cases h
 | b8 l=>
  simp only [toD,Option.some.injEq] at h;subst h
  refine ⟨rfl,fun i x' hx'=>⟨x',hx',?_⟩,fun hv=>⟨hv.1,fun i y v hy hv'=>?_⟩⟩
  ·simp only [Data.at,Option.map_eq_some_iff] at hx'
   obtain ⟨y,_,rfl⟩:=hx';rfl
  ·have:=hv.2 i y v hy hv'
   simp only [Data.list,List.getElem?_map,Option.map_eq_some_iff] at hy
   obtain ⟨z,_,rfl⟩:=hy
   exact toV_rel (rs:=rs) this rfl
 | b32 l=>
  simp only [toD,Option.some.injEq] at h;subst h
  refine ⟨rfl,fun i x' hx'=>⟨x',hx',?_⟩,fun hv=>⟨hv.1,fun i y v hy hv'=>?_⟩⟩
  ·simp only [Data.at,Option.map_eq_some_iff] at hx'
   obtain ⟨y,_,rfl⟩:=hx';rfl
  ·have:=hv.2 i y v hy hv'
   simp only [Data.list,List.getElem?_map,Option.map_eq_some_iff] at hy
   obtain ⟨z,_,rfl⟩:=hy
   exact toV_rel (rs:=rs) this rfl
 | b64 l=>
  simp only [toD,Option.some.injEq] at h;subst h
  refine ⟨rfl,fun i x' hx'=>⟨x',hx',?_⟩,fun hv=>⟨hv.1,fun i y v hy hv'=>?_⟩⟩
  ·simp only [Data.at,Option.map_eq_some_iff] at hx'
   obtain ⟨y,_,rfl⟩:=hx';rfl
  ·have:=hv.2 i y v hy hv'
   simp only [Data.list,List.getElem?_map,Option.map_eq_some_iff] at hy
   obtain ⟨z,_,rfl⟩:=hy
   exact toV_rel (rs:=rs) this rfl
 | spot n K x=>
  simp only [toD] at h
  split at h
  case h_2=>cases h
  rename_i x' hx
  injection h with h;subst h
  refine ⟨rfl,fun i y hy=>?_,fun hv=>⟨by simpa [Data.list] using hv.1,fun i y v hy hv'=>?_⟩⟩
  ·have hlt:i < n:=by
    have:=(List.getElem?_eq_some_iff.1 (show ((List.replicate n (AV.atom .undef)).set K x')[i]? = some y from hy)).1
    simpa using this
   by_cases e:i = K
   ·subst e
    have hy':((List.replicate n (AV.atom .undef)).set i x')[i]? = some y:=hy
    simp [hlt] at hy'
    subst hy'
    exact ⟨x,by simp [Data.at,hlt],hx⟩
   ·rcases spot_get hy with rfl | ⟨rfl,_⟩
    ·exact ⟨.atom .undef,by simp [Data.at,hlt,List.getElem?_set,Ne.symm e],rfl⟩
    ·exact absurd rfl e
  ·have hlt:i < n:=by
    have:=(List.getElem?_eq_some_iff.1 (show ((List.replicate n (AV.atom .undef)).set K x')[i]? = some y from hy)).1
    simpa using this
   rcases spot_get hy with rfl | ⟨rfl,rfl⟩
   ·exact .undef v
   ·exact toV_rel (hv.2 i x v (by simp [Data.list,hlt]) hv') hx
theorem ren_spec {f:Nat → Nat} (hf:∀ i L,β1 i = some L → β' (f i) = some L) (d:Data):(d.ren f).len = d.len ∧ ∀ {vs:List Value},LRel β1 d.list vs → LRel β' (d.ren f).list vs:=by
 cases d with
 | gen l=>exact ⟨by simp [Data.ren,Data.len,renL_map],fun hv=>renL_rel hf hv⟩
 | kn l t=>
  refine ⟨by simp [Data.ren,Data.len,renL_map],fun hv=>?_⟩
  have:=renL_rel hf hv
  simp only [Data.list] at this
  rw [renL_pre] at this
  exact this
 | b8 l=>
  refine ⟨rfl,fun hv=>⟨hv.1,fun i y v hy hv'=>?_⟩⟩
  have:=hv.2 i y v hy hv'
  simp only [Data.ren,Data.list,List.getElem?_map,Option.map_eq_some_iff] at hy
  obtain ⟨z,_,rfl⟩:=hy
  exact renV_rel hf this
 | b32 l=>
  refine ⟨rfl,fun hv=>⟨hv.1,fun i y v hy hv'=>?_⟩⟩
  have:=hv.2 i y v hy hv'
  simp only [Data.ren,Data.list,List.getElem?_map,Option.map_eq_some_iff] at hy
  obtain ⟨z,_,rfl⟩:=hy
  exact renV_rel hf this
 | b64 l=>
  refine ⟨rfl,fun hv=>⟨hv.1,fun i y v hy hv'=>?_⟩⟩
  have:=hv.2 i y v hy hv'
  simp only [Data.ren,Data.list,List.getElem?_map,Option.map_eq_some_iff] at hy
  obtain ⟨z,_,rfl⟩:=hy
  exact renV_rel hf this
 | spot n K x=>
  refine ⟨rfl,fun hv=>⟨by simpa [Data.ren,Data.list] using hv.1,fun i y v hy hv'=>?_⟩⟩
  have hlt:i < n:=by
   have:=(List.getElem?_eq_some_iff.1 (show ((List.replicate n (AV.atom .undef)).set K (renV f x))[i]? = some y from hy)).1
   simpa using this
  rcases spot_get hy with rfl | ⟨rfl,rfl⟩
  ·exact .undef v
  ·exact renV_rel hf (hv.2 i x v (by simp [Data.list,hlt]) hv')
variable {w:World}
theorem BRel.to {d d':Data} {m:Mode} {L:Loc} (h:BRel β ⟨d,m⟩ L w) (hd:toD rs d = some d'):BRel (inner β rs) ⟨d',m⟩ L w:=by
 obtain ⟨h1,h2,h3⟩:=toD_spec (β:=β) hd
 cases m with
 | dead=>trivial
 | ro=>
  obtain ⟨g1,g2,g3⟩:=h
  refine ⟨g1,by rw [h1];exact g2,fun i x' hx'=>?_⟩
  obtain ⟨x,hx,ht⟩:=h2 i x' hx'
  obtain ⟨v,hv,hr,hmay⟩:=g3 i x hx
  exact ⟨v,hv,toV_rel hr ht,hmay⟩
 | own=>
  obtain ⟨g1,gm,vs,t,fz,g2,gf,g3,g4,g5⟩:=h
  exact ⟨g1,gm,vs,t,fz,g2,gf,g3,by rw [h1];exact g4,by rw [h1];exact h3 g5⟩
theorem BRel.ren {f:Nat → Nat} (hf:∀ i L,β1 i = some L → β' (f i) = some L) {d:Data} {L:Loc} (h:BRel β1 ⟨d,.own⟩ L w):BRel β' ⟨d.ren f,.own⟩ L w:=by
 obtain ⟨h1,h2⟩:=ren_spec hf d
 obtain ⟨g1,gm,vs,t,fz,g2,gf,g3,g4,g5⟩:=h
 exact ⟨g1,gm,vs,t,fz,g2,gf,g3,by rw [h1];exact g4,by rw [h1];exact h2 g5⟩
end
end
section
variable [RowAddr] [Co]
theorem seenBy_spec {H:List Blk} {rs:List Nat}:∀ {l:List Nat} {ks:List Blk},seenBy H rs l = some ks → ks.length = l.length ∧
 ∀ (i:Nat) b k',l[i]? = some b → ks[i]? = some k' → ∃ d,H[b]? = some ⟨d,k'.mode⟩ ∧ toD rs d = some k'.data
 | [],ks,h=>by simp [seenBy] at h;subst h;exact ⟨rfl,fun i b k' hb=>by simp at hb⟩
 | b :: r,ks,h=>by
  simp only [seenBy] at h
  split at h
  ·cases h
  rename_i d m hd
  split at h
  ·cases h
  rename_i d' hd'
  split at h
  ·rename_i ks' hks
   injection h with h;subst h
   obtain ⟨h1,h2⟩:=seenBy_spec hks
   refine ⟨by simp [h1],fun i b' k' hb hk=>?_⟩
   cases i with
   | zero=>simp at hb hk;subst hb hk;exact ⟨d,by rw [← lget_eq];exact hd,hd'⟩
   | succ i=>exact h2 i b' k' (by simpa using hb) (by simpa using hk)
  ·cases h
theorem newBlks_get (f:Nat → Nat):∀ (ks:List Blk) (i:Nat),(newBlks f ks)[i]? = (ks[i]?).map fun k=>⟨k.data.ren f,k.mode⟩
 | [],i=>by simp [newBlks]
 | ⟨d,m⟩ :: ks,0=>by simp [newBlks]
 | ⟨d,m⟩ :: ks,i + 1=>by simp [newBlks,newBlks_get f ks i]
theorem newBlks_len (f:Nat → Nat):∀ ks:List Blk,(newBlks f ks).length = ks.length
 | []=>rfl
 | ⟨d,m⟩ :: ks=>by simp [newBlks,newBlks_len f ks]
theorem putBack_spec (f:Nat → Nat):∀ (rs:List Nat) (ks H H2:List Blk),rs.Nodup → (∀ b ∈ rs,b < H.length) → putBack f rs ks H = some H2 →
 rs.length ≤ ks.length ∧ H2.length = H.length + (ks.length - rs.length) ∧
 (∀ b:Nat,b < H.length → (∀ i:Nat,rs[i]? = some b → (blkAt H b).mode ≠ .own) → H2[b]? = H[b]?) ∧
 (∀ (i:Nat) b k,rs[i]? = some b → ks[i]? = some k → (blkAt H b).mode = .own → H2[b]? = some ⟨k.data.ren f,k.mode⟩) ∧
 (∀ i:Nat,H2[H.length + i]? = (ks[rs.length + i]?).map fun k=>⟨k.data.ren f,k.mode⟩):=by
 intro rs
 induction rs with
 | nil=>
  intro ks H H2 _ _ h
  simp only [putBack,Option.some.injEq] at h;subst h
  refine ⟨by simp,by simp [newBlks_len],fun b hb _=>List.getElem?_append_left hb,fun i b k hb=>by simp at hb,fun i=>?_⟩
  rw [List.getElem?_append_right (by omega),newBlks_get]
  simp
 | cons b0 rs ih=>
  intro ks H H2 hn hlt h
  rw [List.nodup_cons] at hn
  cases ks with
  | nil=>simp [putBack] at h
  | cons k0 ks=>
   obtain ⟨d0,m0⟩:=k0
   have hb0:b0 < H.length:=hlt b0 (List.mem_cons_self ..)
   simp only [putBack] at h
   have main:∀ H1:List Blk,H1.length = H.length → (∀ b:Nat,b ≠ b0 → H1[b]? = H[b]?) → ((blkAt H b0).mode = .own → H1[b0]? = some ⟨d0.ren f,m0⟩) → ((blkAt H b0).mode ≠ .own → H1[b0]? = H[b0]?) → putBack f rs ks H1 = some H2 →
    rs.length + 1 ≤ ks.length + 1 ∧ H2.length = H.length + (ks.length + 1 - (rs.length + 1)) ∧
    (∀ b:Nat,b < H.length → (∀ i:Nat,(b0 :: rs)[i]? = some b → (blkAt H b).mode ≠ .own) → H2[b]? = H[b]?) ∧
    (∀ (i:Nat) b k,(b0 :: rs)[i]? = some b → (⟨d0,m0⟩ :: ks)[i]? = some k → (blkAt H b).mode = .own → H2[b]? = some ⟨k.data.ren f,k.mode⟩) ∧
    (∀ i:Nat,H2[H.length + i]? = ((⟨d0,m0⟩ :: ks)[rs.length + 1 + i]?).map fun k=>⟨k.data.ren f,k.mode⟩):=by
    intro H1 hl h1 h2 h2' h3
    have hba:∀ b,b ≠ b0 → blkAt H1 b = blkAt H b:=by
     intro b hb;unfold blkAt;rw [lget_eq,lget_eq,h1 b hb]
    obtain ⟨g1,g2,g3,g4,g5⟩:=ih ks H1 H2 hn.2 (fun b hb=>by rw [hl];exact hlt b (List.mem_cons_of_mem _ hb)) h3
    refine ⟨by omega,by rw [g2,hl];omega,fun b hb hi=>?_,fun i b k hb hk ho=>?_,fun i=>?_⟩
    ·by_cases e:b = b0
     ·subst e
      have hno:=hi 0 rfl
      rw [g3 b (by omega) (fun i hi'=>absurd (List.mem_of_getElem? hi') hn.1),h2' hno]
     ·rw [g3 b (by omega) (fun i hi'=>by rw [hba b e];exact hi (i + 1) (by simpa using hi')),h1 b e]
    ·cases i with
     | zero=>
      simp at hb hk;subst hb hk
      rw [g3 b0 (by omega) (fun i hi'=>absurd (List.mem_of_getElem? hi') hn.1),h2 ho]
     | succ i=>
      have hb':rs[i]? = some b:=by simpa using hb
      have e:b ≠ b0:=by intro e;subst e;exact hn.1 (List.mem_of_getElem? hb')
      exact g4 i b k hb' (by simpa using hk) (by rw [hba b e];exact ho)
    ·have:=g5 i
     rw [hl] at this
     rw [this]
     have e:rs.length + 1 + i = (rs.length + i) + 1:=by omega
     rw [e,List.getElem?_cons_succ]
   split at h
   ·rename_i hm
    exact main (lset ⟨d0.ren f,m0⟩ b0 H) (by rw [lset_eq,List.length_set]) (fun b hb=>by rw [lset_eq,List.getElem?_set_ne (Ne.symm hb)]) (fun _=>by rw [lset_eq,List.getElem?_set_self hb0]) (fun hn=>absurd hm hn) h
   ·rename_i hm
    exact main H rfl (fun b _=>rfl) (fun ho=>absurd ho hm) (fun _=>rfl) h
theorem lowOf_spec (H:List Blk):∀ (rs:List Nat) (l:Nat),lowOf H rs l ≤ l ∧ ∀ b ∈ rs,(blkAt H b).mode = .own → lowOf H rs l ≤ b
 | [],l=>⟨Nat.le_refl _,fun b hb=>by cases hb⟩
 | b0 :: rs,l=>by
  simp only [lowOf]
  split
  ·obtain ⟨h1,h2⟩:=lowOf_spec H rs (Nat.min l b0)
   refine ⟨Nat.le_trans h1 (Nat.min_le_left _ _),fun b hb ho=>?_⟩
   rcases List.mem_cons.1 hb with rfl | hb
   ·exact Nat.le_trans h1 (Nat.min_le_right _ _)
   ·exact h2 b hb ho
  ·rename_i hm
   obtain ⟨h1,h2⟩:=lowOf_spec H rs l
   refine ⟨h1,fun b hb ho=>?_⟩
   rcases List.mem_cons.1 hb with rfl | hb
   ·exact absurd ho (by simpa using hm)
   ·exact h2 b hb ho
section
variable {C:Cfg} {G:Nat → Option (List AV)}
def SpecOk (P:Program) (G:Nat → Option (List AV)) (f:FuncId) (sp:Spec):Prop:=∀ args H dec r,sp args H dec = some r →
 (∀ (i:Nat) k,r.H[i]? = some k → k.mode = .ro → ∃ k',H[i]? = some k' ∧ k'.mode = .ro) ∧ ((∀ x ∈ r.cond,x = true) → ∀ β w vs,LRel β args vs → HRel G β H w →
  (∃ fn,P.funcs[f]? = some fn ∧ (fn.name == "runtime.NumGoroutine") = false ∧ fn.body.isSome = true) ∧
  CallsJ P f ⟨vs⟩ w fun e w'=>∃ u β',e = .returned u ∧ VRel β' r.v u ∧ HRel G β' r.H w' ∧ Stp β H w β' r.H w')
theorem callSpec_ok {P:Program} {f:FuncId} {sp:Spec} (hsp:SpecOk P G f sp):∀ args S v S',callSpec sp args S = some (v,S') → Ext S S' ∧ (S'.ok → ∀ β w vs,LRel β args vs → HRel G β S.H w →
 (∃ fn,P.funcs[f]? = some fn ∧ (fn.name == "runtime.NumGoroutine") = false ∧ fn.body.isSome = true) ∧
 CallsJ P f ⟨vs⟩ w fun e w'=>∃ u β',e = .returned u ∧ VRel β' v u ∧ HRel G β' S'.H w' ∧ Stp β S.H w β' S'.H w'):=by
 intro args S v S' h
 unfold callSpec at h
 simp only at h
 generalize closeRefs S.H 100 0 (refsL args []) = rs at h
 split at h
 ·cases h
 rename_i hnd
 have hnd:=nodupB_spec hnd
 split at h
 ·cases h
 rename_i args' hargs
 split at h
 ·cases h
 rename_i Hc hHc
 split at h
 ·cases h
 rename_i r hr
 split at h
 ·cases h
 rename_i H2 hpb
 simp only [Option.some.injEq,Prod.mk.injEq] at h
 obtain ⟨rfl,rfl⟩:=h
 obtain ⟨hcl,hcg⟩:=seenBy_spec hHc
 obtain ⟨hx,hcalls⟩:=hsp args' Hc S.dec r hr
 have hrsget:∀ (i b:Nat),rs[i]? = some b → ∃ d k',Hc[i]? = some k' ∧ S.H[b]? = some ⟨d,k'.mode⟩ ∧ toD rs d = some k'.data:=by
  intro i b hb
  have hi:i < Hc.length:=by
   rw [hcl]
   rcases Nat.lt_or_ge i rs.length with h | h
   ·exact h
   ·rw [List.getElem?_eq_none h] at hb;cases hb
  obtain ⟨d,h1,h2⟩:=hcg i b _ hb (List.getElem?_eq_getElem hi)
  exact ⟨d,_,List.getElem?_eq_getElem hi,h1,h2⟩
 have hlt:∀ b ∈ rs,b < S.H.length:=by
  intro b hb
  obtain ⟨i,hi⟩:=List.getElem?_of_mem hb
  obtain ⟨d,k',_,h2,_⟩:=hrsget i b hi
  rw [← lget_eq] at h2;exact lget_lt h2
 obtain ⟨p1,p2,p3,p4,p5⟩:=putBack_spec _ _ _ _ _ hnd hlt hpb
 have hmode:∀ (i b:Nat) k',rs[i]? = some b → Hc[i]? = some k' → (blkAt S.H b).mode = k'.mode:=by
  intro i b k' hb hk
  obtain ⟨d,k2,h1,h2,_⟩:=hrsget i b hb
  rw [h1] at hk;injection hk with hk;subst hk
  unfold blkAt;rw [lget_eq,h2]
 have huniq:∀ (i j b:Nat),rs[i]? = some b → rs[j]? = some b → i = j:=by
  intro i j b hi hj
  have hil:i < rs.length:=(List.getElem?_eq_some_iff.1 hi).1
  have hjl:j < rs.length:=(List.getElem?_eq_some_iff.1 hj).1
  exact (List.getElem_inj hnd).1 (by rw [(List.getElem?_eq_some_iff.1 hi).2,(List.getElem?_eq_some_iff.1 hj).2])
 have from2:∀ (b:Nat) k,H2[b]? = some k → (∃ (i:Nat) (k1:Blk),r.H[i]? = some k1 ∧ k = ⟨k1.data.ren (backOf rs S.H.length),k1.mode⟩ ∧ backOf rs S.H.length i = b ∧ ((rs[i]? = some b ∧ ∃ k',Hc[i]? = some k' ∧ k'.mode = .own) ∨ (rs.length ≤ i ∧ b = S.H.length + (i - rs.length)))) ∨
  (b < S.H.length ∧ S.H[b]? = some k ∧ ∀ (i:Nat) k',rs[i]? = some b → Hc[i]? = some k' → k'.mode ≠ .own):=by
  intro b k hk
  rcases Nat.lt_or_ge b S.H.length with hb | hb
  ·by_cases ho:∃ (i:Nat) (k':Blk),rs[i]? = some b ∧ Hc[i]? = some k' ∧ k'.mode = .own
   ·obtain ⟨i,k',h1,h2,h3⟩:=ho
    left
    have hi:i < r.H.length:=by
     have:=(List.getElem?_eq_some_iff.1 h1).1;omega
    have:=p4 i b _ h1 (List.getElem?_eq_getElem hi) (by rw [hmode i b k' h1 h2];exact h3)
    rw [this] at hk;injection hk with hk
    refine ⟨i,r.H[i],List.getElem?_eq_getElem hi,hk.symm,?_,.inl ⟨h1,k',h2,h3⟩⟩
    unfold backOf;rw [lget_eq,h1]
   ·right
    have hno:∀ (i:Nat) (k':Blk),rs[i]? = some b → Hc[i]? = some k' → k'.mode ≠ .own:=fun i k' h1 h2 h3=>ho ⟨i,k',h1,h2,h3⟩
    refine ⟨hb,?_,hno⟩
    rw [← p3 b hb fun i hi=>?_]
    ·exact hk
    ·obtain ⟨d,k',h1,h2,_⟩:=hrsget i b hi
     rw [hmode i b k' hi h1];exact hno i k' hi h1
  ·left
   have e:b = S.H.length + (b - S.H.length):=by omega
   rw [e,p5,Option.map_eq_some_iff] at hk
   obtain ⟨k1,h1,h2⟩:=hk
   refine ⟨rs.length + (b - S.H.length),k1,h1,h2.symm,?_,.inr ⟨by omega,by omega⟩⟩
   unfold backOf
   rw [lget_eq,List.getElem?_eq_none (by omega)]
   simp only;omega
 have noRo:∀ (b i:Nat) k1,r.H[i]? = some k1 → ((rs[i]? = some b ∧ ∃ k',Hc[i]? = some k' ∧ k'.mode = .own) ∨ (rs.length ≤ i ∧ b = S.H.length + (i - rs.length))) → k1.mode ≠ .ro:=by
  intro b i k1 h1 h2 hm
  obtain ⟨k2,h5,h6⟩:=hx i k1 h1 hm
  rcases h2 with ⟨_,k',h3,h4⟩ | ⟨h3,_⟩
  ·rw [h3] at h5;injection h5 with h5;subst h5;rw [h6] at h4;cases h4
  ·rw [List.getElem?_eq_none (by omega)] at h5;cases h5
 obtain ⟨l1,l2⟩:=lowOf_spec S.H rs S.low
 refine ⟨⟨fun o x hx=>o x (List.mem_append_right _ hx),l1,by rw [p2];omega,fun b hb hl=>?_,fun b k hk hm=>?_,fun b k hk hm=>?_⟩,fun ok β w vs hargsr hH=>?_⟩
 ·rw [lget_eq,lget_eq]
  refine p3 b hb fun i hi ho=>?_
  have:=l2 b (List.mem_of_getElem? hi) ho
  simp only at hl;omega
 ·simp only [lget_eq] at hk ⊢
  rw [p3 b (by rw [← lget_eq] at hk;exact lget_lt hk) fun i hi ho=>?_]
  ·exact hk
  ·unfold blkAt at ho;rw [lget_eq,hk] at ho;simp only at ho;rw [hm] at ho;cases ho
 ·simp only [lget_eq] at hk ⊢
  rcases from2 b k hk with ⟨i,k1,h1,rfl,_,h3⟩ | ⟨_,h2,_⟩
  ·exact absurd hm (noRo b i k1 h1 h3)
  ·exact h2
 have ok1:∀ x ∈ r.cond,x = true:=fun x hx=>ok x (List.mem_append_left _ hx)
 have hHc:HRel G (inner β rs) Hc w:=by
  have hget:∀ (i:Nat) k',Hc[i]? = some k' → ∃ b d,rs[i]? = some b ∧ S.H[b]? = some ⟨d,k'.mode⟩ ∧ toD rs d = some k'.data:=by
   intro i k' hk
   have hi:i < rs.length:=by rw [← hcl];exact (List.getElem?_eq_some_iff.1 hk).1
   obtain ⟨d,h1,h2⟩:=hcg i _ k' (List.getElem?_eq_getElem hi) hk
   exact ⟨_,d,List.getElem?_eq_getElem hi,h1,h2⟩
  refine ⟨fun i k' hk ha=>?_,fun i j k k' L L' hne hk hk' ho ha hL hL'=>?_,fun i L hL=>?_,hH.glob,fun i k L hk ho hL=>?_⟩
  ·obtain ⟨b,d,h1,h2,h3⟩:=hget i k' hk
   rw [inner_get h1]
   obtain ⟨d',m'⟩:=k'
   rcases hH.blk b _ h2 ha with ⟨L,hL,hbr⟩ | ⟨g2,g3⟩
   ·exact .inl ⟨L,hL,hbr.to h3⟩
   ·exact .inr ⟨by rw [(toD_spec (β:=β) h3).1];exact g2,g3⟩
  ·obtain ⟨b,d,h1,h2,h3⟩:=hget i k hk
   obtain ⟨b',d',h1',h2',h3'⟩:=hget j k' hk'
   rw [inner_get h1] at hL;rw [inner_get h1'] at hL'
   refine hH.dis b b' _ _ L L' (fun e=>hne ?_) h2 h2' ho ha hL hL'
   subst e;exact huniq i j b h1 h1'
  ·unfold inner at hL
   split at hL
   ·rename_i b hb;rw [hcl];exact (List.getElem?_eq_some_iff.1 hb).1
   ·cases hL
  ·obtain ⟨b,d,h1,h2,h3⟩:=hget i k hk
   rw [inner_get h1] at hL
   exact hH.apart b _ L h2 ho hL
 obtain ⟨hfn,hc⟩:=hcalls ok1 (inner β rs) w vs (toL_rel hargsr hargs) hHc
 refine ⟨hfn,hc.mono ?_⟩
 rintro e w' ⟨u,β1,rfl,hu,hH1,hs⟩
 let β':Map:=fun b=>if b < S.H.length then β b else β1 (rs.length + (b - S.H.length))
 have hβlt:∀ b,b < S.H.length → β' b = β b:=fun b hb=>by simp [β',hb]
 have hβin:∀ (i b:Nat),rs[i]? = some b → β' b = β1 i:=by
  intro i b hi
  rw [hβlt b (hlt b (List.mem_of_getElem? hi)),hs.old i (by rw [hcl];exact (List.getElem?_eq_some_iff.1 hi).1),inner_get hi]
 have hβnew:∀ i,rs.length ≤ i → β' (S.H.length + (i - rs.length)) = β1 i:=by
  intro i hi
  have h1:¬ (S.H.length + (i - rs.length) < S.H.length):=by omega
  have h2:rs.length + (S.H.length + (i - rs.length) - S.H.length) = i:=by omega
  simp only [β',h1,if_false,h2]
 have hf:∀ i L,β1 i = some L → β' (backOf rs S.H.length i) = some L:=by
  intro i L hL
  unfold backOf
  rcases Nat.lt_or_ge i rs.length with hi | hi
  ·rw [lget_eq,List.getElem?_eq_getElem hi]
   rw [hβin i _ (List.getElem?_eq_getElem hi)];exact hL
  ·rw [lget_eq,List.getElem?_eq_none hi]
   rw [hβnew i hi];exact hL
 have hle:Map.le β β':=fun b L hL=>by rw [hβlt b (hH.dom b L hL)];exact hL
 have hloc:∀ b i,((rs[i]? = some b ∧ ∃ k',Hc[i]? = some k' ∧ k'.mode = .own) ∨ (rs.length ≤ i ∧ b = S.H.length + (i - rs.length))) → β' b = β1 i:=by
  rintro b i (⟨h,_⟩ | ⟨h,rfl⟩)
  ·exact hβin i b h
  ·exact hβnew i h
 have hnot:∀ (b:Nat) k L,S.H[b]? = some k → k.mode.alive → β b = some L → (∀ (i:Nat) k',rs[i]? = some b → Hc[i]? = some k' → k'.mode ≠ .own) → ¬ Own (inner β rs) Hc L.c:=by
  rintro b k L hk ha hL hno ⟨j,kj,Lj,hj,hoj,hLj,hcj⟩
  have hjl:j < rs.length:=by rw [← hcl];exact (List.getElem?_eq_some_iff.1 hj).1
  obtain ⟨d,k2,g1,g2,_⟩:=hrsget j _ (List.getElem?_eq_getElem hjl)
  rw [hj] at g1;injection g1 with g1;subst g1
  rw [inner_get (List.getElem?_eq_getElem hjl)] at hLj
  by_cases e:rs[j] = b
  ·subst e;exact hno j kj (List.getElem?_eq_getElem hjl) hj hoj
  ·exact hH.dis rs[j] b _ k Lj L e g2 hk hoj ha hLj hL hcj
 refine ⟨u,β',rfl,renV_rel hf hu,⟨fun b k hk ha=>?_,?_,fun b L hL=>?_,hH1.glob,fun b k L hk ho hL=>?_⟩,⟨hle,by rw [p2];omega,hs.os,hs.tape,hs.output,hs.size,fun c hc hn=>?_,fun c hc ⟨b,k,L,hk,ho,hL,hLc⟩=>?_,hβlt⟩⟩
 ·rcases from2 b k hk with ⟨i,k1,h1,rfl,_,h3⟩ | ⟨hb,h2,hno⟩
  ·obtain ⟨d1,m1⟩:=k1
   have hm:m1 = .own:=by
    cases m1 with
    | own=>rfl
    | ro=>exact absurd rfl (noRo b i _ h1 h3)
    | dead=>exact absurd rfl ha
   subst hm
   rw [hloc b i h3]
   rcases hH1.blk i _ h1 (own_alive rfl) with ⟨L,hL,hbr⟩ | ⟨g2,g3⟩
   ·exact .inl ⟨L,hL,hbr.ren hf⟩
   ·exact .inr ⟨by rw [(ren_spec hf d1).1];exact g2,g3⟩
  ·rw [hβlt b hb]
   rcases hH.blk b k h2 ha with ⟨L,hL,hbr⟩ | h
   ·exact .inl ⟨L,hL,hbr.mono hle hs.size (hs.kept _ (hbr.lt ha) (hnot b k L h2 ha hL hno))⟩
   ·exact .inr h
 ·
  have cross:∀ (b b' i:Nat) (k k1:Blk) (L L':Loc),b ≠ b' → S.H[b]? = some k → k.mode.alive → β b = some L → (∀ (i:Nat) k',rs[i]? = some b → Hc[i]? = some k' → k'.mode ≠ .own) →
   r.H[i]? = some k1 → k1.mode = .own → β1 i = some L' → L.c ≠ L'.c:=by
   intro b b' i k k1 L L' hne hk ha hL hno h1 ho hL' hc
   exact hnot b k L hk ha hL hno (hs.own _ (hH.lt hk ha hL) ⟨i,k1,L',h1,ho,hL',hc.symm⟩)
  intro b b' k k' L L' hne hk hk' ho ha hL hL'
  rcases from2 b k hk with ⟨i,k1,h1,rfl,_,h3⟩ | ⟨hb,h2,hno⟩
  ·rw [hloc b i h3] at hL
   rcases from2 b' k' hk' with ⟨i',k1',h1',rfl,_,h3'⟩ | ⟨hb',h2',hno'⟩
   ·rw [hloc b' i' h3'] at hL'
    refine hH1.dis i i' k1 k1' L L' (fun e=>hne ?_) h1 h1' ho ha hL hL'
    subst e
    rcases h3 with ⟨h3,_⟩ | ⟨h3,e3⟩ <;> rcases h3' with ⟨h3',_⟩ | ⟨h3',e3'⟩
    ·rw [h3] at h3';injection h3'
    ·have:=(List.getElem?_eq_some_iff.1 h3).1;omega
    ·have:=(List.getElem?_eq_some_iff.1 h3').1;omega
    ·rw [e3,e3']
   ·rw [hβlt b' hb'] at hL'
    exact (cross b' b i k' k1 L' L (Ne.symm hne) h2' ha hL' hno' h1 ho hL).symm
  ·rw [hβlt b hb] at hL
   rcases from2 b' k' hk' with ⟨i',k1',h1',rfl,_,h3'⟩ | ⟨hb',h2',hno'⟩
   ·rw [hloc b' i' h3'] at hL'
    have hm:k1'.mode = .own:=by
     cases hm:k1'.mode with
     | own=>rfl
     | ro=>exact absurd hm (noRo b' i' _ h1' h3')
     | dead=>exact absurd hm ha
    exact cross b b' i' k k1' L L' hne h2 (own_alive ho) hL hno h1' hm hL'
   ·rw [hβlt b' hb'] at hL'
    exact hH.dis b b' k k' L L' hne h2 h2' ho ha hL hL'
 ·rcases Nat.lt_or_ge b S.H.length with hb | hb
  ·rw [p2];omega
  ·have h1:¬ (b < S.H.length):=by omega
   simp only [β',h1,if_false] at hL
   have:=hH1.dom _ L hL
   rw [p2];omega
 ·rcases from2 b k hk with ⟨i,k1,h1,rfl,_,h3⟩ | ⟨hb,h2,hno⟩
  ·rw [hloc b i h3] at hL;exact hH1.apart i k1 L h1 ho hL
  ·rw [hβlt b hb] at hL;exact hH.apart b k L h2 ho hL
 ·refine hs.kept c hc fun ⟨j,kj,Lj,hj,hoj,hLj,hcj⟩=>hn ?_
  have hjl:j < rs.length:=by rw [← hcl];exact (List.getElem?_eq_some_iff.1 hj).1
  obtain ⟨d,k2,g1,g2,_⟩:=hrsget j _ (List.getElem?_eq_getElem hjl)
  rw [hj] at g1;injection g1 with g1;subst g1
  rw [inner_get (List.getElem?_eq_getElem hjl)] at hLj
  exact ⟨rs[j],_,Lj,g2,hoj,hLj,hcj⟩
 ·rcases from2 b k hk with ⟨i,k1,h1,rfl,_,h3⟩ | ⟨hb,h2,hno⟩
  ·rw [hloc b i h3] at hL
   obtain ⟨j,kj,Lj,hj,hoj,hLj,hcj⟩:=hs.own c hc ⟨i,k1,L,h1,ho,hL,hLc⟩
   have hjl:j < rs.length:=by rw [← hcl];exact (List.getElem?_eq_some_iff.1 hj).1
   obtain ⟨d,k2,g1,g2,_⟩:=hrsget j _ (List.getElem?_eq_getElem hjl)
   rw [hj] at g1;injection g1 with g1;subst g1
   rw [inner_get (List.getElem?_eq_getElem hjl)] at hLj
   exact ⟨rs[j],_,Lj,g2,hoj,hLj,hcj⟩
  ·rw [hβlt b hb] at hL;exact ⟨b,k,L,h2,ho,hL,hLc⟩
end
end
section
variable [RowAddr] [Co]
section
variable {β β':Map} {n:Nat} {w w':World} {G:Nat → Option (List AV)}
end
end
section
variable [RowAddr] [Co]
def LessD (d d':Data):Prop:=d'.len = d.len ∧ ∀ β vs,LRel β d.list vs → LRel β d'.list vs
theorem less32 {d:Data} {l:Vec 32} (h:d.as32 = some l):LessD d (.b32 l):=⟨as32_len h,fun β vs hv=>as32_rel h hv⟩
theorem less8 {d:Data} {l:Vec 8} (h:d.as8 = some l):LessD d (.b8 l):=⟨as8_len h,fun β vs hv=>as8_rel h hv⟩
theorem less64 {d:Data} {l:Vec 64} (h:d.as64 = some l):LessD d (.b64 l):=⟨as64_len h,fun β vs hv=>as64_rel h hv⟩
section
variable {G:Nat → Option (List AV)} {β:Map} {w:World} {H H':List Blk}
theorem ROk.less {d d':Data} {L:Loc} (h:ROk β d L w) (hd:LessD d d'):ROk β d' L w:=by
 obtain ⟨g1,g2,g3⟩:=h
 refine ⟨g1,by rw [hd.1];exact g2,?_⟩
 have hv:∃ vs:List Value,LRel β d.list vs ∧ ∀ (i:Nat) v,vs[i]? = some v → w.cell? (at' L.c (L.base + i)) = some v:=by
  refine ⟨(List.range d.len).map fun i=>(w.cell? (at' L.c (L.base + i))).getD undef,⟨by simp [Data.list_len],fun i x v hx hv=>?_⟩,fun i v hv=>?_⟩
  ·rw [Data.list_at] at hx
   obtain ⟨u,hu,hr,_⟩:=g3 i x hx
   have hi:i < d.len:=by
    rw [← Data.list_len]
    rw [← Data.list_at] at hx
    rcases Nat.lt_or_ge i d.list.length with h | h
    ·exact h
    ·rw [List.getElem?_eq_none h] at hx;cases hx
   simp [hi,hu] at hv;subst hv;exact hr
  ·rcases Nat.lt_or_ge i d.len with hi | hi
   ·have hx:∃ x,d.at i = some x:=by
     rw [← Data.list_at]
     exact ⟨d.list[i]'(by rw [Data.list_len];exact hi),List.getElem?_eq_getElem _⟩
    obtain ⟨x,hx⟩:=hx
    obtain ⟨u,hu,hr,_⟩:=g3 i x hx
    simp [hi,hu] at hv;subst hv;exact hu
   ·simp [show ¬ i < d.len by omega] at hv
 obtain ⟨vs,h1,h2⟩:=hv
 intro i x hx
 have:=(hd.2 β vs h1)
 rw [← Data.list_at] at hx
 obtain ⟨v,hv,hr⟩:=this.get hx
 have hi:i < d.len:=by
  rw [← hd.1,← Data.list_len]
  exact (List.getElem?_eq_some_iff.1 hx).1
 obtain ⟨_,_,_,hmay⟩:=g3 i _ (by rw [← Data.list_at];exact List.getElem?_eq_getElem (by rw [Data.list_len];exact hi))
 exact ⟨v,h2 i v hv,hr,hmay⟩
theorem BRel.less {k k':Blk} {L:Loc} (h:BRel β k L w) (hm:k'.mode = k.mode) (hd:LessD k.data k'.data):BRel β k' L w:=by
 obtain ⟨d,m⟩:=k
 obtain ⟨d',m'⟩:=k'
 simp only at hm hd
 subst hm
 cases m' with
 | dead=>trivial
 | ro=>exact ROk.less h hd
 | own=>
  obtain ⟨g1,gm,vs,t,fz,g2,gf,g3,g4,g5⟩:=h
  exact ⟨g1,gm,vs,t,fz,g2,gf,g3,by rw [hd.1];exact g4,by rw [hd.1];exact hd.2 β _ g5⟩
end
end
section
variable [RowAddr] [Co]
def cN (p x:N):N:=
 match p with
 | .c _=>x
 | .s _=>.s x.v
def cO (p x:Option N):Option N:=
 match p with
 | none=>none
 | some p=>
  match x with
  | some x=>some (cN p x)
  | none=>none
def cAtom (p:Atom) (x:AV):Option AV:=
 match p with
 | .undef=>some .undef
 | .bool b=>
  match b with
  | .c _=>some x
  | .s _=>
   match x with
   | .atom (.bool b)=>some (.bool (.s b.v))
   | _=>none
 | _=>some x
def cNum (p:Num) (x:AV):Option AV:=
 match p with
 | .int _ z=>
  match z with
  | .c _=>some x
  | .s _=>
   match x with
   | .num (.int k z)=>some (.int k (.s z.v))
   | _=>none
 | .w8 _=>x.bv8.map fun x=>.w8 x
 | .w16 _=>x.bv16.map fun x=>.w16 x
 | .w32 _=>x.bv32.map fun x=>.w32 x
 | .w64 _=>x.bv64.map fun x=>.w64 x
def cRef (p:Ref) (x:AV):Option AV:=
 match p with
 | .ptr _ po=>
  match x with
  | .ref (.ptr b o)=>some (.ptr b (cN po o))
  | _=>none
 | .gp ..=>some x
 | .gs ..=>some x
 | .sm pb pl ps=>
  match x with
  | .ref (.sm b l s)=>some (.sm b (cN pl l) s)
  | .atom .nils=>some (.sm pb (cN pl (.c 0)) ps)
  | _=>none
 | .sl pb po pl pc=>
  match x with
  | .ref (.sl b o l c)=>some (.sl b (cN po o) (cN pl l) (cO pc c))
  | .atom .nils=>some (.sl pb (cN po (.c 0)) (cN pl (.c 0)) none)
  | _=>none
mutual
def cV:AV → AV → Option AV
 | .atom p,x=>cAtom p x
 | .num p,x=>cNum p x
 | .ref p,x=>cRef p x
 | .agg ps,x=>
  match x with
  | .agg xs=>
   match cL ps xs with
   | some xs=>some (.agg xs)
   | none=>none
  | _=>none
 | .obj t ps,x=>
  match t with
  | .tup=>
   match x with
   | .obj .tup xs=>
    match cL ps xs with
    | some xs=>some (.obj .tup xs)
    | none=>none
   | _=>none
  | _=>some x
def cL:List AV → List AV → Option (List AV)
 | [],xs=>
  match xs with
  | []=>some []
  | _=>none
 | p :: ps,xs=>
  match xs with
  | []=>none
  | x :: xs=>
   match cV p x with
   | none=>none
   | some y=>
    match cL ps xs with
    | none=>none
    | some ys=>some (y :: ys)
end
def cD (p d:Data):Option Data:=
 match p with
 | .b8 _=>d.as8.map fun l=>.b8 l
 | .b32 _=>d.as32.map fun l=>.b32 l
 | .b64 _=>d.as64.map fun l=>.b64 l
 | .gen ps=>
  match d with
  | .gen xs=>(cL ps xs).map fun l=>.gen l
  | _=>none
 | .spot ..=>none
 | .kn _ pt=>
  match d with
  | .kn l t=>(cL pt t).map fun t=>.kn l t
  | _=>none
def cB (p k:Blk):Option Blk:=
 match p.mode with
 | .dead=>some ⟨.gen [],.dead⟩
 | .ro=>
  match k.mode with
  | .dead=>none
  | _=>
   match cD p.data k.data with
   | some d=>some ⟨d,.ro⟩
   | none=>none
 | .own=>
  match k.mode with
  | .own=>
   match cD p.data k.data with
   | some d=>some ⟨d,.own⟩
   | none=>none
  | _=>none
def cH:List Blk → List Blk → Option (List Blk)
 | [],ks=>
  match ks with
  | []=>some []
  | _=>none
 | p :: ps,ks=>
  match ks with
  | []=>none
  | k :: ks=>
   match cB p k with
   | none=>none
   | some k=>
    match cH ps ks with
    | none=>none
    | some ks=>some (k :: ks)
def wkV (rs:Option (List Nat)) (p x:AV):Option AV:=
 match p with
 | .atom .undef=>some .undef
 | p=>
  match rs with
  | none=>cV p x
  | some rs=>
   match toV rs x with
   | some x=>cV p x
   | none=>none
def wkL (rs:Option (List Nat)):List AV → List AV → Option (List AV)
 | [],xs=>
  match xs with
  | []=>some []
  | _=>none
 | p :: ps,xs=>
  match xs with
  | []=>none
  | x :: xs=>
   match wkV rs p x with
   | none=>none
   | some y=>
    match wkL rs ps xs with
    | none=>none
    | some ys=>some (y :: ys)
def wkT (rs:Option (List Nat)) (ts:List (Nat × AV)):List (Nat × AV) → Option (List (Nat × AV))
 | []=>some []
 | (t,p) :: ps=>
  match wkV rs p (assoc t ts) with
  | none=>none
  | some y=>
   match wkT rs ts ps with
   | none=>none
   | some ys=>some ((t,y) :: ys)
def wkF (rs:Option (List Nat)) (p F:Fr):Option Fr:=
 match wkL rs p.vars F.vars with
 | none=>none
 | some vs=>
  match wkT rs F.tmps p.tmps with
  | none=>none
  | some ts=>some ⟨vs,ts⟩
def fixB:Nat → Nat → List Nat → Bool
 | 0,_,_=>true
 | n + 1,i,rs=>
  match rs with
  | []=>false
  | x :: rs=>
   match Nat.beq x i with
   | true=>fixB n (i + 1) rs
   | false=>false
def wkH (n0:Nat) (gh:List Blk) (rs:Option (List Nat)) (ps H:List Blk):Option (List Blk):=
 match rs with
 | none=>cH ps (H ++ gh)
 | some rs=>
  match nodupB rs && fixB n0 0 rs with
  | false=>none
  | true=>
   match seenBy (H ++ gh) rs rs with
   | some H=>cH ps H
   | none=>none
theorem cN_v (p x:N):(cN p x).v = x.v:=by cases p <;> rfl
section
variable {β:Map}
theorem cAtom_ok {p:Atom} {x y:AV} {v:Value} (h:cAtom p x = some y) (hx:VRel β x v):VRel β y v:=by
 unfold cAtom at h
 split at h
 ·injection h with h;subst h;exact .undef _
 ·split at h
  ·injection h with h;subst h;exact hx
  ·split at h
   ·rename_i b
    injection h with h;subst h
    rw [hx.bool_inv];exact .bool (.s b.v)
   ·cases h
 ·injection h with h;subst h;exact hx
theorem cNum_ok {p:Num} {x y:AV} {v:Value} (h:cNum p x = some y) (hx:VRel β x v):VRel β y v:=by
 unfold cNum at h
 split at h
 ·split at h
  ·injection h with h;subst h;exact hx
  ·split at h
   ·rename_i k z
    injection h with h;subst h
    rw [hx.num_inv];exact .num (.int k (.s z.v))
   ·cases h
 ·cases x with
  | num n=>
   simp only [AV.bv8,Option.map_eq_some_iff] at h
   obtain ⟨z,h1,rfl⟩:=h
   rw [hx.num_inv,Num.bv8_spec h1];exact .num (.w8 z)
  | _=>simp [AV.bv8] at h
 ·cases x with
  | num n=>
   simp only [AV.bv16,Option.map_eq_some_iff] at h
   obtain ⟨z,h1,rfl⟩:=h
   rw [hx.num_inv,Num.bv16_spec h1];exact .num (.w16 z)
  | _=>simp [AV.bv16] at h
 ·cases x with
  | num n=>
   simp only [AV.bv32,Option.map_eq_some_iff] at h
   obtain ⟨z,h1,rfl⟩:=h
   rw [hx.num_inv,Num.bv32_spec h1];exact .num (.w32 z)
  | _=>simp [AV.bv32] at h
 ·cases x with
  | num n=>
   simp only [AV.bv64,Option.map_eq_some_iff] at h
   obtain ⟨z,h1,rfl⟩:=h
   rw [hx.num_inv,Num.bv64_spec h1];exact .num (.w64 z)
  | _=>simp [AV.bv64] at h
theorem cRef_ok {p:Ref} {x y:AV} {v:Value} (h:cRef p x = some y) (hx:VRel β x v):VRel β y v:=by
 unfold cRef at h
 split at h
 ·split at h
  ·rename_i b o
   injection h with h;subst h
   obtain ⟨L,hL,rfl⟩:=hx.ptr_inv
   rw [← cN_v];exact .ptr b _ L hL
  ·cases h
 ·injection h with h;subst h;exact hx
 ·injection h with h;subst h;exact hx
 ·split at h
  ·rename_i pb pl ps _ b l s
   injection h with h;subst h
   obtain ⟨a,cp,rfl,g1,g3⟩:=hx.sm_inv
   rw [← cN_v pl l]
   exact .sm b _ s a cp (by rw [cN_v];exact g1) g3
  ·rename_i pb pl ps _
   injection h with h;subst h
   cases hx
   have e:(cN pl (.c 0)).v = 0:=cN_v _ _
   have:=VRel.sm (β:=β) pb (cN pl (.c 0)) ps none 0 (by omega) (.inl rfl)
   rw [e] at this;exact this
  ·cases h
 ·split at h
  ·rename_i pb po pl pc _ b o l c
   injection h with h;subst h
   obtain ⟨a,cp,rfl,g1,g2,g3⟩:=hx.sl_inv
   rw [← cN_v pl l]
   refine .sl b _ _ _ a cp (by rw [cN_v];exact g1) (fun C hC=>?_) (by rw [cN_v];exact g3)
   unfold cO at hC
   split at hC
   ·cases hC
   ·split at hC
    ·injection hC with hC;subst hC;rw [cN_v];exact g2 _ rfl
    ·cases hC
  ·rename_i pb po pl pc _
   injection h with h;subst h
   cases hx
   have e:(cN pl (.c 0)).v = 0:=cN_v _ _
   have:=VRel.sl (β:=β) pb (cN po (.c 0)) (cN pl (.c 0)) none none 0 (by omega) (fun C hC=>by cases hC) (.inl rfl)
   rw [e] at this;exact this
  ·cases h
theorem cL_get {ps xs ys:List AV} (h:cL ps xs = some ys):ys.length = xs.length ∧ ∀ (i:Nat) x y,xs[i]? = some x → ys[i]? = some y → ∃ p,cV p x = some y:=by
 induction ps generalizing xs ys with
 | nil=>
  simp only [cL] at h
  split at h
  ·injection h with h;subst h;exact ⟨rfl,fun i x y hx=>by simp at hx⟩
  ·cases h
 | cons p ps ih=>
  cases xs with
  | nil=>simp [cL] at h
  | cons x xs=>
   simp only [cL] at h
   split at h
   ·cases h
   ·rename_i y hy
    split at h
    ·cases h
    ·rename_i ys' hys
     injection h with h;subst h
     obtain ⟨h1,h2⟩:=ih hys
     refine ⟨by simp [h1],fun i a b ha hb=>?_⟩
     cases i with
     | zero=>simp at ha hb;subst ha hb;exact ⟨p,hy⟩
     | succ i=>exact h2 i a b (by simpa using ha) (by simpa using hb)
theorem cV_ok {x:AV} {v:Value} (hx:VRel β x v):∀ {p y:AV},cV p x = some y → VRel β y v:=by
 induction hx with
 | agg xs vs hl h ih=>
  intro p y hy
  cases p with
  | atom p=>exact cAtom_ok hy (.agg xs vs hl h)
  | num p=>exact cNum_ok hy (.agg xs vs hl h)
  | ref p=>exact cRef_ok (by simpa only [cV] using hy) (.agg xs vs hl h)
  | agg ps=>
   simp only [cV] at hy
   split at hy
   ·rename_i ys hys
    injection hy with hy;subst hy
    obtain ⟨h1,h2⟩:=cL_get hys
    refine .agg ys vs (h1.trans hl) fun i a b ha hb=>?_
    have hi:i < xs.length:=by
     rcases Nat.lt_or_ge i xs.length with h | h
     ·exact h
     ·rw [List.getElem?_eq_none (by omega)] at ha;cases ha
    obtain ⟨q,hq⟩:=h2 i _ a (List.getElem?_eq_getElem hi) ha
    exact ih i _ b (List.getElem?_eq_getElem hi) hb hq
   ·cases hy
  | obj t ps=>
   simp only [cV] at hy
   split at hy
   ·cases hy
   ·injection hy with hy;subst hy;exact .agg xs vs hl h
 | tup xs vs hl h ih=>
  intro p y hy
  cases p with
  | atom p=>exact cAtom_ok hy (.tup xs vs hl h)
  | num p=>exact cNum_ok hy (.tup xs vs hl h)
  | ref p=>exact cRef_ok (by simpa only [cV] using hy) (.tup xs vs hl h)
  | agg ps=>simp [cV] at hy
  | obj t ps=>
   simp only [cV] at hy
   split at hy
   ·split at hy
    ·rename_i ys hys
     injection hy with hy;subst hy
     obtain ⟨h1,h2⟩:=cL_get hys
     refine .tup ys vs (h1.trans hl) fun i a b ha hb=>?_
     have hi:i < xs.length:=by
      rcases Nat.lt_or_ge i xs.length with h | h
      ·exact h
      ·rw [List.getElem?_eq_none (by omega)] at ha;cases ha
     obtain ⟨q,hq⟩:=h2 i _ a (List.getElem?_eq_getElem hi) ha
     exact ih i _ b (List.getElem?_eq_getElem hi) hb hq
    ·cases hy
   ·injection hy with hy;subst hy;exact .tup xs vs hl h
 | ifc t x v h ih=>
  intro p y hy
  have hx:=VRel.ifc t x v h
  cases p with
  | atom p=>exact cAtom_ok hy hx
  | num p=>exact cNum_ok hy hx
  | ref p=>exact cRef_ok (by simpa only [cV] using hy) hx
  | agg ps=>simp [cV] at hy
  | obj t ps=>
   simp only [cV] at hy
   split at hy
   ·cases hy
   ·injection hy with hy;subst hy;exact hx
 | fn f n xs first captured hn hl h ih=>
  intro p y hy
  have hx:=VRel.fn f n xs first captured hn hl h
  cases p with
  | atom p=>exact cAtom_ok hy hx
  | num p=>exact cNum_ok hy hx
  | ref p=>exact cRef_ok (by simpa only [cV] using hy) hx
  | agg ps=>simp [cV] at hy
  | obj t ps=>
   simp only [cV] at hy
   split at hy
   ·cases hy
   ·injection hy with hy;subst hy;exact hx
 | undef v=>
  intro p y hy
  have hx:=VRel.undef (β:=β) v
  cases p with
  | atom p=>exact cAtom_ok hy hx
  | num p=>exact cNum_ok hy hx
  | ref p=>exact cRef_ok (by simpa only [cV] using hy) hx
  | agg ps=>simp [cV] at hy
  | obj t ps=>
   simp only [cV] at hy
   split at hy
   ·cases hy
   ·injection hy with hy;subst hy;exact hx
 | bool b=>
  intro p y hy
  have hx:=VRel.bool (β:=β) b
  cases p with
  | atom p=>exact cAtom_ok hy hx
  | num p=>exact cNum_ok hy hx
  | ref p=>exact cRef_ok (by simpa only [cV] using hy) hx
  | agg ps=>simp [cV] at hy
  | obj t ps=>
   simp only [cV] at hy
   split at hy
   ·cases hy
   ·injection hy with hy;subst hy;exact hx
 | str s=>
  intro p y hy
  have hx:=VRel.str (β:=β) s
  cases p with
  | atom p=>exact cAtom_ok hy hx
  | num p=>exact cNum_ok hy hx
  | ref p=>exact cRef_ok (by simpa only [cV] using hy) hx
  | agg ps=>simp [cV] at hy
  | obj t ps=>
   simp only [cV] at hy
   split at hy
   ·cases hy
   ·injection hy with hy;subst hy;exact hx
 | nilp=>
  intro p y hy
  have hx:=VRel.nilp (β:=β)
  cases p with
  | atom p=>exact cAtom_ok hy hx
  | num p=>exact cNum_ok hy hx
  | ref p=>exact cRef_ok (by simpa only [cV] using hy) hx
  | agg ps=>simp [cV] at hy
  | obj t ps=>
   simp only [cV] at hy
   split at hy
   ·cases hy
   ·injection hy with hy;subst hy;exact hx
 | nils=>
  intro p y hy
  have hx:=VRel.nils (β:=β)
  cases p with
  | atom p=>exact cAtom_ok hy hx
  | num p=>exact cNum_ok hy hx
  | ref p=>exact cRef_ok (by simpa only [cV] using hy) hx
  | agg ps=>simp [cV] at hy
  | obj t ps=>
   simp only [cV] at hy
   split at hy
   ·cases hy
   ·injection hy with hy;subst hy;exact hx
 | nili=>
  intro p y hy
  have hx:=VRel.nili (β:=β)
  cases p with
  | atom p=>exact cAtom_ok hy hx
  | num p=>exact cNum_ok hy hx
  | ref p=>exact cRef_ok (by simpa only [cV] using hy) hx
  | agg ps=>simp [cV] at hy
  | obj t ps=>
   simp only [cV] at hy
   split at hy
   ·cases hy
   ·injection hy with hy;subst hy;exact hx
 | nilf=>
  intro p y hy
  have hx:=VRel.nilf (β:=β)
  cases p with
  | atom p=>exact cAtom_ok hy hx
  | num p=>exact cNum_ok hy hx
  | ref p=>exact cRef_ok (by simpa only [cV] using hy) hx
  | agg ps=>simp [cV] at hy
  | obj t ps=>
   simp only [cV] at hy
   split at hy
   ·cases hy
   ·injection hy with hy;subst hy;exact hx
 | exact u=>
  intro p y hy
  have hx:=VRel.exact (β:=β) u
  cases p with
  | atom p=>exact cAtom_ok hy hx
  | num p=>exact cNum_ok hy hx
  | ref p=>exact cRef_ok (by simpa only [cV] using hy) hx
  | agg ps=>simp [cV] at hy
  | obj t ps=>
   simp only [cV] at hy
   split at hy
   ·cases hy
   ·injection hy with hy;subst hy;exact hx
 | num n=>
  intro p y hy
  have hx:=VRel.num (β:=β) n
  cases p with
  | atom p=>exact cAtom_ok hy hx
  | num p=>exact cNum_ok hy hx
  | ref p=>exact cRef_ok (by simpa only [cV] using hy) hx
  | agg ps=>simp [cV] at hy
  | obj t ps=>
   simp only [cV] at hy
   split at hy
   ·cases hy
   ·injection hy with hy;subst hy;exact hx
 | ptr b o L hL=>
  intro p y hy
  have hx:=VRel.ptr b o L hL
  cases p with
  | atom p=>exact cAtom_ok hy hx
  | num p=>exact cNum_ok hy hx
  | ref p=>exact cRef_ok (by simpa only [cV] using hy) hx
  | agg ps=>simp [cV] at hy
  | obj t ps=>
   simp only [cV] at hy
   split at hy
   ·cases hy
   ·injection hy with hy;subst hy;exact hx
 | gp g o=>
  intro p y hy
  have hx:=VRel.gp (β:=β) g o
  cases p with
  | atom p=>exact cAtom_ok hy hx
  | num p=>exact cNum_ok hy hx
  | ref p=>exact cRef_ok (by simpa only [cV] using hy) hx
  | agg ps=>simp [cV] at hy
  | obj t ps=>
   simp only [cV] at hy
   split at hy
   ·cases hy
   ·injection hy with hy;subst hy;exact hx
 | gs g o l cp h1=>
  intro p y hy
  have hx:=VRel.gs (β:=β) g o l cp h1
  cases p with
  | atom p=>exact cAtom_ok hy hx
  | num p=>exact cNum_ok hy hx
  | ref p=>exact cRef_ok (by simpa only [cV] using hy) hx
  | agg ps=>simp [cV] at hy
  | obj t ps=>
   simp only [cV] at hy
   split at hy
   ·cases hy
   ·injection hy with hy;subst hy;exact hx
 | sm b l s a cp h1 h3=>
  intro p y hy
  have hx:=VRel.sm b l s a cp h1 h3
  cases p with
  | atom p=>exact cAtom_ok hy hx
  | num p=>exact cNum_ok hy hx
  | ref p=>exact cRef_ok (by simpa only [cV] using hy) hx
  | agg ps=>simp [cV] at hy
  | obj t ps=>
   simp only [cV] at hy
   split at hy
   ·cases hy
   ·injection hy with hy;subst hy;exact hx
 | sl b o l cap a cp h1 h2 h3=>
  intro p y hy
  have hx:=VRel.sl b o l cap a cp h1 h2 h3
  cases p with
  | atom p=>exact cAtom_ok hy hx
  | num p=>exact cNum_ok hy hx
  | ref p=>exact cRef_ok (by simpa only [cV] using hy) hx
  | agg ps=>simp [cV] at hy
  | obj t ps=>
   simp only [cV] at hy
   split at hy
   ·cases hy
   ·injection hy with hy;subst hy;exact hx
theorem cL_rel {ps xs ys:List AV} {vs:List Value} (h:cL ps xs = some ys) (hx:LRel β xs vs):LRel β ys vs:=by
 obtain ⟨h1,h2⟩:=cL_get h
 refine ⟨h1.trans hx.1,fun i a b ha hb=>?_⟩
 have hi:i < xs.length:=by
  rcases Nat.lt_or_ge i xs.length with h | h
  ·exact h
  ·rw [List.getElem?_eq_none (by omega)] at ha;cases ha
 obtain ⟨q,hq⟩:=h2 i _ a (List.getElem?_eq_getElem hi) ha
 exact cV_ok (hx.2 i _ b (List.getElem?_eq_getElem hi) hb) hq
end
theorem cL_pre {pt t t':List AV} (h:cL pt t = some t'):∀ l:List Value,cL (l.map AV.exact ++ pt) (l.map AV.exact ++ t) = some (l.map AV.exact ++ t')
 | []=>h
 | v :: l=>by
  show cL (AV.exact v :: (l.map AV.exact ++ pt)) (AV.exact v :: (l.map AV.exact ++ t)) = some (AV.exact v :: (l.map AV.exact ++ t'))
  rw [cL,cL_pre h l];rfl
theorem cD_less {p d d':Data} (h:cD p d = some d'):LessD d d':=by
 unfold cD at h
 split at h
 ·rw [Option.map_eq_some_iff] at h;obtain ⟨l,h1,rfl⟩:=h;exact less8 h1
 ·rw [Option.map_eq_some_iff] at h;obtain ⟨l,h1,rfl⟩:=h;exact less32 h1
 ·rw [Option.map_eq_some_iff] at h;obtain ⟨l,h1,rfl⟩:=h;exact less64 h1
 ·split at h
  ·rw [Option.map_eq_some_iff] at h;obtain ⟨l,h1,rfl⟩:=h
   exact ⟨(cL_get h1).1,fun β vs hv=>cL_rel h1 hv⟩
  ·cases h
 ·cases h
 ·split at h
  ·rename_i l t
   rw [Option.map_eq_some_iff] at h;obtain ⟨t',h1,rfl⟩:=h
   have e:=cL_pre h1 l
   exact ⟨by have:=(cL_get e).1;simpa [Data.len] using this,fun β vs hv=>cL_rel e hv⟩
  ·cases h
theorem cB_spec {p k k':Blk} (h:cB p k = some k'):k'.mode = .dead ∨ (k.mode.alive ∧ (k'.mode = k.mode ∨ k'.mode = .ro) ∧ LessD k.data k'.data):=by
 unfold cB at h
 split at h
 ·injection h with h;subst h;exact .inl rfl
 ·split at h
  ·cases h
  ·rename_i hm
   split at h
   ·rename_i d hd
    injection h with h;subst h
    exact .inr ⟨hm,.inr rfl,cD_less hd⟩
   ·cases h
 ·split at h
  ·rename_i hm
   split at h
   ·rename_i d hd
    injection h with h;subst h
    exact .inr ⟨own_alive hm,.inl hm.symm,cD_less hd⟩
   ·cases h
  ·cases h
theorem BRel.look {β:Map} {w:World} {k k':Blk} {L:Loc} (h:BRel β k L w) (ha:k.mode.alive) (hm:k'.mode = k.mode ∨ k'.mode = .ro) (hd:LessD k.data k'.data):BRel β k' L w:=by
 rcases hm with hm | hm
 ·exact h.less hm hd
 ·have hr:ROk β k.data L w:=⟨h.lt ha,h.room ha,fun i x hx=>h.cell ha hx⟩
  obtain ⟨d',m'⟩:=k'
  simp only at hm hd
  subst hm
  exact ROk.less hr hd
theorem cH_get {ps ks ks':List Blk} (h:cH ps ks = some ks'):ks'.length = ks.length ∧ ∀ (i:Nat) k',ks'[i]? = some k' → ∃ k,ks[i]? = some k ∧ (k'.mode = .dead ∨ (k.mode.alive ∧ (k'.mode = k.mode ∨ k'.mode = .ro) ∧ LessD k.data k'.data)):=by
 induction ps generalizing ks ks' with
 | nil=>
  simp only [cH] at h
  split at h
  ·injection h with h;subst h;exact ⟨rfl,fun i x hx=>by simp at hx⟩
  ·cases h
 | cons p ps ih=>
  cases ks with
  | nil=>simp [cH] at h
  | cons k ks=>
   simp only [cH] at h
   split at h
   ·cases h
   ·rename_i y hy
    split at h
    ·cases h
    ·rename_i ys' hys
     injection h with h;subst h
     obtain ⟨h1,h2⟩:=ih hys
     refine ⟨by simp [h1],fun i b hb=>?_⟩
     cases i with
     | zero=>simp at hb;subst hb;exact ⟨k,rfl,cB_spec hy⟩
     | succ i=>exact h2 i b (by simpa using hb)
section
variable {G:Nat → Option (List AV)} {β:Map} {w:World}
theorem HRel.conf {ps H H':List Blk} (h:HRel G β H w) (hc:cH ps H = some H'):HRel G β H' w ∧ (∀ (b:Nat) k,H'[b]? = some k → k.mode = .own → ∃ k0,H[b]? = some k0 ∧ k0.mode = .own):=by
 obtain ⟨h1,h2⟩:=cH_get hc
 have hown:∀ (b:Nat) k,H'[b]? = some k → k.mode = .own → ∃ k0,H[b]? = some k0 ∧ k0.mode = .own:=by
  intro b k' hk ho
  obtain ⟨k,g1,g2 | ⟨_,g2 | g2,_⟩⟩:=h2 b k' hk
  ·rw [ho] at g2;cases g2
  ·exact ⟨k,g1,g2 ▸ ho⟩
  ·rw [ho] at g2;cases g2
 refine ⟨⟨fun b k' hk ha=>?_,fun b b' k1 k2 L L' hne hk hk' ho ha hL hL'=>?_,fun b L hL=>by rw [h1];exact h.dom b L hL,h.glob,fun b k' L hk ho hL=>?_⟩,hown⟩
 ·obtain ⟨k,g1,g2 | ⟨g0,g2,g3⟩⟩:=h2 b k' hk
  ·exact absurd g2 ha
  ·rcases h.blk b k g1 g0 with ⟨L,hL,hbr⟩ | ⟨e1,e2⟩
   ·exact .inl ⟨L,hL,hbr.look g0 g2 g3⟩
   ·exact .inr ⟨g3.1.trans e1,e2⟩
 ·obtain ⟨k,g1,g2⟩:=hown b k1 hk ho
  obtain ⟨k',g1',g2' | ⟨g0',_⟩⟩:=h2 b' k2 hk'
  ·exact absurd g2' ha
  exact h.dis b b' k k' L L' hne g1 g1' g2 g0' hL hL'
 ·obtain ⟨k,g1,g2⟩:=hown b k' hk ho
  exact h.apart b k L g1 g2 hL
theorem own_of {H H':List Blk} (h:∀ (b:Nat) k,H'[b]? = some k → k.mode = .own → ∃ k0,H[b]? = some k0 ∧ k0.mode = .own):∀ c,Own β H' c → Own β H c:=by
 rintro c ⟨b,k',L,hk,ho,hL,hcc⟩
 obtain ⟨k,g1,g2⟩:=h b k' hk ho
 exact ⟨b,k,L,g1,g2,hL,hcc⟩
theorem HRel.ghost {H gh:List Blk} (h:HRel G β H w) (hg:∀ k ∈ gh,k.data.len = 0):HRel G β (H ++ gh) w ∧ (∀ c,Own β (H ++ gh) c → Own β H c):=by
 have hget:∀ (b:Nat) k,(H ++ gh)[b]? = some k → H[b]? = some k ∨ (k.data.len = 0 ∧ β b = none):=by
  intro b k hk
  rcases Nat.lt_or_ge b H.length with hb | hb
  ·rw [List.getElem?_append_left hb] at hk;exact .inl hk
  ·rw [List.getElem?_append_right hb] at hk
   refine .inr ⟨hg k (List.mem_of_getElem? hk),?_⟩
   cases hn:β b with
   | none=>rfl
   | some L=>have:=h.dom b L hn;omega
 refine ⟨⟨fun b k hk ha=>?_,fun b b' k k' L L' hne hk hk' ho ha hL hL'=>?_,fun b L hL=>?_,h.glob,fun b k L hk ho hL=>?_⟩,?_⟩
 ·rcases hget b k hk with g | g
  ·exact h.blk b k g ha
  ·exact .inr g
 ·rcases hget b k hk with g | ⟨_,g⟩
  ·rcases hget b' k' hk' with g' | ⟨_,g'⟩
   ·exact h.dis b b' k k' L L' hne g g' ho ha hL hL'
   ·rw [g'] at hL';cases hL'
  ·rw [g] at hL;cases hL
 ·have:=h.dom b L hL;rw [List.length_append];omega
 ·rcases hget b k hk with g | ⟨_,g⟩
  ·exact h.apart b k L g ho hL
  ·rw [g] at hL;cases hL
 ·rintro c ⟨b,k,L,hk,ho,hL,hcc⟩
  rcases hget b k hk with g | ⟨_,g⟩
  ·exact ⟨b,k,L,g,ho,hL,hcc⟩
  ·rw [g] at hL;cases hL
theorem HRel.inner {H Hc:List Blk} {rs:List Nat} (hH:HRel G β H w) (hnd:rs.Nodup) (hHc:seenBy H rs rs = some Hc):HRel G (inner β rs) Hc w ∧ (∀ c,Own (inner β rs) Hc c → Own β H c) ∧ Hc.length = rs.length:=by
 obtain ⟨hcl,hcg⟩:=seenBy_spec hHc
 have huniq:∀ (i j b:Nat),rs[i]? = some b → rs[j]? = some b → i = j:=by
  intro i j b hi hj
  have hil:i < rs.length:=(List.getElem?_eq_some_iff.1 hi).1
  have hjl:j < rs.length:=(List.getElem?_eq_some_iff.1 hj).1
  exact (List.getElem_inj hnd).1 (by rw [(List.getElem?_eq_some_iff.1 hi).2,(List.getElem?_eq_some_iff.1 hj).2])
 have hget:∀ (i:Nat) k',Hc[i]? = some k' → ∃ b d,rs[i]? = some b ∧ H[b]? = some ⟨d,k'.mode⟩ ∧ toD rs d = some k'.data:=by
  intro i k' hk
  have hi:i < rs.length:=by rw [← hcl];exact (List.getElem?_eq_some_iff.1 hk).1
  obtain ⟨d,h1,h2⟩:=hcg i _ k' (List.getElem?_eq_getElem hi) hk
  exact ⟨_,d,List.getElem?_eq_getElem hi,h1,h2⟩
 refine ⟨⟨fun i k' hk ha=>?_,fun i j k k' L L' hne hk hk' ho ha hL hL'=>?_,fun i L hL=>?_,hH.glob,fun i k L hk ho hL=>?_⟩,?_,hcl⟩
 ·obtain ⟨b,d,h1,h2,h3⟩:=hget i k' hk
  rw [inner_get h1]
  obtain ⟨d',m'⟩:=k'
  rcases hH.blk b _ h2 ha with ⟨L,hL,hbr⟩ | ⟨g2,g3⟩
  ·exact .inl ⟨L,hL,hbr.to h3⟩
  ·exact .inr ⟨by rw [(toD_spec (β:=β) h3).1];exact g2,g3⟩
 ·obtain ⟨b,d,h1,h2,h3⟩:=hget i k hk
  obtain ⟨b',d',h1',h2',h3'⟩:=hget j k' hk'
  rw [inner_get h1] at hL;rw [inner_get h1'] at hL'
  refine hH.dis b b' _ _ L L' (fun e=>hne ?_) h2 h2' ho ha hL hL'
  subst e;exact huniq i j b h1 h1'
 ·unfold Eng.inner at hL
  split at hL
  ·rename_i b hb;rw [hcl];exact (List.getElem?_eq_some_iff.1 hb).1
  ·cases hL
 ·obtain ⟨b,d,h1,h2,h3⟩:=hget i k hk
  rw [inner_get h1] at hL
  exact hH.apart b _ L h2 ho hL
 ·rintro c ⟨i,k,L,hk,ho,hL,hcc⟩
  obtain ⟨b,d,h1,h2,h3⟩:=hget i k hk
  rw [inner_get h1] at hL
  exact ⟨b,_,L,h2,ho,hL,hcc⟩
theorem fixB_spec:∀ (n i:Nat) (rs:List Nat),fixB n i rs = true → ∀ j,j < n → rs[j]? = some (i + j)
 | 0,_,_,_,j,hj=>by omega
 | n + 1,i,[],h,j,_=>by simp [fixB] at h
 | n + 1,i,x :: rs,h,j,hj=>by
  simp only [fixB] at h
  split at h
  ·rename_i hx
   have hx:x = i:=by simpa using hx
   cases j with
   | zero=>simp [hx]
   | succ j=>
    have:=fixB_spec n (i + 1) rs h j (by omega)
    simp only [List.getElem?_cons_succ,this];congr 1;omega
  ·cases h
theorem wk_ok {n0:Nat} {gh:List Blk} {rs:Option (List Nat)} {ps H H':List Blk} (hg:∀ k ∈ gh,k.data.len = 0) (h:wkH n0 gh rs ps H = some H') (hn:n0 ≤ H.length) (hH:HRel G β H w) :
 ∃ β':Map,HRel G β' H' w ∧ (∀ b,b < n0 → β' b = β b) ∧ n0 ≤ H'.length ∧ (∀ c,Own β' H' c → Own β H c) ∧ ∀ p x y v,wkV rs p x = some y → VRel β x v → VRel β' y v:=by
 obtain ⟨g1,g2⟩:=hH.ghost hg
 cases rs with
 | none=>
  simp only [wkH] at h
  obtain ⟨g3,g4⟩:=g1.conf h
  refine ⟨β,g3,fun _ _=>rfl,by rw [(cH_get h).1,List.length_append];omega,fun c hc=>g2 c (own_of g4 c hc),fun p x y v hy hx=>?_⟩
  unfold wkV at hy
  split at hy
  ·injection hy with hy;subst hy;exact .undef _
  ·exact cV_ok hx hy
 | some rs=>
  simp only [wkH] at h
  split at h
  ·cases h
  rename_i hnf
  simp only [Bool.and_eq_true] at hnf
  split at h
  case h_2=>cases h
  rename_i H1 hs
  obtain ⟨g3,g4,g5⟩:=g1.inner (nodupB_spec hnf.1) hs
  obtain ⟨g6,g7⟩:=g3.conf h
  have hfix:=fixB_spec n0 0 rs hnf.2
  refine ⟨Eng.inner β rs,g6,fun b hb=>?_,?_,fun c hc=>g2 c (g4 c (own_of g7 c hc)),fun p x y v hy hx=>?_⟩
  ·have:=hfix b hb
   rw [Nat.zero_add] at this
   exact inner_get this
  ·rw [(cH_get h).1,g5]
   rcases Nat.lt_or_ge rs.length n0 with hlt | hge
   ·have:=hfix rs.length hlt
    rw [List.getElem?_eq_none (Nat.le_refl _)] at this;cases this
   ·exact hge
  ·unfold wkV at hy
   split at hy
   ·injection hy with hy;subst hy;exact .undef _
   ·simp only at hy
    split at hy
    ·rename_i x' hx'
     exact cV_ok (toV_rel hx hx') hy
    ·cases hy
theorem wkL_get {rs:Option (List Nat)} {ps xs ys:List AV} (h:wkL rs ps xs = some ys):ys.length = xs.length ∧ ∀ (i:Nat) x y,xs[i]? = some x → ys[i]? = some y → ∃ p,wkV rs p x = some y:=by
 induction ps generalizing xs ys with
 | nil=>
  simp only [wkL] at h
  split at h
  ·injection h with h;subst h;exact ⟨rfl,fun i x y hx=>by simp at hx⟩
  ·cases h
 | cons p ps ih=>
  cases xs with
  | nil=>simp [wkL] at h
  | cons x xs=>
   simp only [wkL] at h
   split at h
   ·cases h
   ·rename_i y hy
    split at h
    ·cases h
    ·rename_i ys' hys
     injection h with h;subst h
     obtain ⟨h1,h2⟩:=ih hys
     refine ⟨by simp [h1],fun i a b ha hb=>?_⟩
     cases i with
     | zero=>simp at ha hb;subst ha hb;exact ⟨p,hy⟩
     | succ i=>exact h2 i a b (by simpa using ha) (by simpa using hb)
theorem wkL_rel {β':Map} {rs:Option (List Nat)} (htr:∀ p x y v,wkV rs p x = some y → VRel β x v → VRel β' y v) {ps xs ys:List AV} {vs:List Value} (h:wkL rs ps xs = some ys) (hx:LRel β xs vs):LRel β' ys vs:=by
 obtain ⟨h1,h2⟩:=wkL_get h
 refine ⟨h1.trans hx.1,fun i a b ha hb=>?_⟩
 have hi:i < xs.length:=by
  rcases Nat.lt_or_ge i xs.length with h | h
  ·exact h
  ·rw [List.getElem?_eq_none (by omega)] at ha;cases ha
 obtain ⟨q,hq⟩:=h2 i _ a (List.getElem?_eq_getElem hi) ha
 exact htr q _ a _ hq (hx.2 i _ b (List.getElem?_eq_getElem hi) hb)
theorem wkT_get {rs:Option (List Nat)} {ts:List (Nat × AV)}:∀ {ps ys:List (Nat × AV)},wkT rs ts ps = some ys → ∀ t,assoc t ys = .undef ∨ ∃ p,wkV rs p (assoc t ts) = some (assoc t ys)
 | [],ys,h,t=>by simp [wkT] at h;subst h;exact .inl rfl
 | (t0,p) :: ps,ys,h,t=>by
  simp only [wkT] at h
  split at h
  ·cases h
  ·rename_i y hy
   split at h
   ·cases h
   ·rename_i ys' hys
    injection h with h;subst h
    simp only [assoc]
    split
    ·rename_i hb
     have hb:t0 = t:=by simpa using hb
     subst hb
     exact .inr ⟨p,hy⟩
    ·exact wkT_get hys t
theorem wkF_rel {nv nt:Nat} {β':Map} {rs:Option (List Nat)} (htr:∀ p x y v,wkV rs p x = some y → VRel β x v → VRel β' y v) {p F F':Fr} {a:Act} (h:wkF rs p F = some F') (hF:FRel nv nt β F a):FRel nv nt β' F' a:=by
 unfold wkF at h
 split at h
 ·cases h
 rename_i vs hvs
 split at h
 ·cases h
 rename_i ts hts
 injection h with h;subst h
 refine ⟨fun t=>?_,hF.size,hF.defers⟩
 have hv:=hF.val t
 simp only [Fr.get] at hv ⊢
 cases hb:Nat.blt t nv with
 | true=>
  rw [hb] at hv
  simp only [lget_eq] at hv ⊢
  obtain ⟨h1,h2⟩:=wkL_get hvs
  cases hy:vs[t]? with
  | none=>exact .undef _
  | some y=>
   have ht:t < F.vars.length:=by rw [← h1];exact (List.getElem?_eq_some_iff.1 hy).1
   obtain ⟨q,hq⟩:=h2 t _ y (List.getElem?_eq_getElem ht) hy
   rw [List.getElem?_eq_getElem ht] at hv
   exact htr q _ y _ hq hv
 | false=>
  rw [hb] at hv
  simp only at hv ⊢
  rcases wkT_get hts t with e | ⟨q,hq⟩
  ·rw [e];exact .undef _
  ·exact htr q _ _ _ hq hv
end
end
section
variable [RowAddr] [Co]
def noRo (m:Mode):Bool:=
 match m with
 | .ro=>false
 | _=>true
def allNoRo:List Blk → Bool
 | []=>true
 | k :: r=>
  match noRo k.mode with
  | true=>allNoRo r
  | false=>false
def isOwn (m:Mode):Bool:=
 match m with
 | .own=>true
 | _=>false
def mergeH:List Blk → List Blk → List Blk → Option (List Blk)
 | [],_,ks=>
  match allNoRo ks with
  | true=>some ks
  | false=>none
 | h :: H,fs,ks=>
  match fs with
  | []=>none
  | f :: fs=>
   match ks with
   | []=>none
   | k :: ks=>
    match mergeH H fs ks with
    | none=>none
    | some r=>
     match isOwn f.mode with
     | true=>
      match noRo k.mode with
      | true=>some (k :: r)
      | false=>none
     | false=>some (h :: r)
theorem noRo_spec {m:Mode} (h:noRo m = true):m ≠ .ro:=by cases m <;> simp [noRo] at h ⊢
theorem isOwn_iff {m:Mode}:isOwn m = true ↔ m = .own:=by cases m <;> simp [isOwn]
theorem allNoRo_get:∀ {l:List Blk},allNoRo l = true → ∀ (i:Nat) k,l[i]? = some k → k.mode ≠ .ro
 | [],_,i,k,h=>by simp at h
 | x :: r,hl,i,k,h=>by
  simp only [allNoRo] at hl
  split at hl
  ·rename_i hx
   cases i with
   | zero=>simp at h;subst h;exact noRo_spec hx
   | succ i=>exact allNoRo_get hl i k (by simpa using h)
  ·cases hl
theorem mergeH_spec:∀ {H F K R:List Blk},mergeH H F K = some R → H.length ≤ F.length ∧ H.length ≤ K.length ∧ R.length = K.length ∧
 ∀ (b:Nat) k,R[b]? = some k → (K[b]? = some k ∧ k.mode ≠ .ro ∧ (b < H.length → ∃ f,F[b]? = some f ∧ f.mode = .own)) ∨ (H[b]? = some k ∧ ∃ f,F[b]? = some f ∧ f.mode ≠ .own)
 | [],F,K,R,h=>by
  simp only [mergeH] at h
  split at h
  ·rename_i ha
   injection h with h;subst h
   exact ⟨Nat.zero_le _,Nat.zero_le _,rfl,fun b k hk=>.inl ⟨hk,allNoRo_get ha b k hk,fun hb=>by simp at hb⟩⟩
  ·cases h
 | x :: H,F,K,R,h=>by
  simp only [mergeH] at h
  cases F with
  | nil=>cases h
  | cons f F=>
  cases K with
  | nil=>cases h
  | cons y K=>
  simp only at h
  split at h
  ·cases h
  rename_i r hr
  obtain ⟨h1,h2,h3,h4⟩:=mergeH_spec hr
  split at h
  ·rename_i ho
   split at h
   ·rename_i hn
    injection h with h;subst h
    refine ⟨by simp;omega,by simp;omega,by simp [h3],fun b k hk=>?_⟩
    cases b with
    | zero=>simp at hk;subst hk;exact .inl ⟨rfl,noRo_spec hn,fun _=>⟨f,rfl,isOwn_iff.1 ho⟩⟩
    | succ b=>
     rcases h4 b k (by simpa using hk) with ⟨g1,g2,g3⟩ | ⟨g1,g2⟩
     ·exact .inl ⟨by simpa using g1,g2,fun hb=>by simpa using g3 (by simpa using hb)⟩
     ·exact .inr ⟨by simpa using g1,by simpa using g2⟩
   ·cases h
  ·rename_i ho
   injection h with h;subst h
   refine ⟨by simp;omega,by simp;omega,by simp [h3],fun b k hk=>?_⟩
   cases b with
   | zero=>simp at hk;subst hk;exact .inr ⟨rfl,f,rfl,fun e=>by rw [isOwn_iff.2 e] at ho;cases ho⟩
   | succ b=>
    rcases h4 b k (by simpa using hk) with ⟨g1,g2,g3⟩ | ⟨g1,g2⟩
    ·exact .inl ⟨by simpa using g1,g2,fun hb=>by simpa using g3 (by simpa using hb)⟩
    ·exact .inr ⟨by simpa using g1,by simpa using g2⟩
structure Stq (n0:Nat) (β:Map) (H:List Blk) (w:World) (β':Map) (H':List Blk) (w':World):Prop where
 le:Map.le β β'
 len:n0 ≤ H'.length
 os:w'.os = w.os
 tape:w'.tape = w.tape
 output:w'.output = w.output
 size:w.heap.size ≤ w'.heap.size
 kept:∀ c,c < w.heap.size → ¬ Own β H c → Kp c w w'
 own:∀ c,c < w.heap.size → Own β' H' c → Own β H c
 old:∀ b,b < n0 → β' b = β b
theorem Stp.q {n0:Nat} {β β':Map} {H H':List Blk} {w w':World} (h:Stp β H w β' H' w') (hn:n0 ≤ H.length):Stq n0 β H w β' H' w':=
 ⟨h.le,Nat.le_trans hn h.len,h.os,h.tape,h.output,h.size,h.kept,h.own,fun b hb=>h.old b (by omega)⟩
theorem Stq.trans {n0:Nat} {β β' β'':Map} {H H' H'':List Blk} {w w' w'':World} (h:Stq n0 β H w β' H' w') (k:Stp β' H' w' β'' H'' w''):Stq n0 β H w β'' H'' w'' where
 le:=Map.le_trans h.le k.le
 len:=Nat.le_trans h.len k.len
 os:=k.os.trans h.os
 tape:=k.tape.trans h.tape
 output:=k.output.trans h.output
 size:=Nat.le_trans h.size k.size
 kept c hc hn:=(h.kept c hc hn).trans (k.kept c (Nat.lt_of_lt_of_le hc h.size) (fun ho=>hn (h.own c hc ho)))
 own c hc ho:=h.own c hc (k.own c (Nat.lt_of_lt_of_le hc h.size) ho)
 old b hb:=(k.old b (Nat.lt_of_lt_of_le hb h.len)).trans (h.old b hb)
theorem Stq.wk {n0:Nat} {β0 β β':Map} {H0 H H':List Blk} {w0 w:World} (h:Stq n0 β0 H0 w0 β H w) (hd:∀ b L,β0 b = some L → b < n0) (h1:∀ b,b < n0 → β' b = β b) (h2:n0 ≤ H'.length) (h3:∀ c,Own β' H' c → Own β H c):Stq n0 β0 H0 w0 β' H' w:=
 ⟨fun b L hL=>by rw [h1 b (hd b L hL)];exact h.le b L hL,h2,h.os,h.tape,h.output,h.size,h.kept,fun c hc ho=>h.own c hc (h3 c ho),fun b hb=>(h1 b hb).trans (h.old b hb)⟩
section
variable {G:Nat → Option (List AV)}
theorem merge_ok {β β':Map} {H F K R:List Blk} {w w':World} (hH:HRel G β H w) (hF:HRel G β F w) (hFo:∀ (b:Nat) k L,F[b]? = some k → k.mode = .own → β b = some L → ∃ k0,H[b]? = some k0 ∧ k0.mode = .own)
 (hK:HRel G β' K w') (hs:Stq H.length β F w β' K w') (hm:mergeH H F K = some R):HRel G β' R w' ∧ Stp β H w β' R w':=by
 obtain ⟨l1,l2,l3,key⟩:=mergeH_spec hm
 have hlt:∀ {b:Nat} {k:Blk},H[b]? = some k → b < H.length:=fun h=>(List.getElem?_eq_some_iff.1 h).1
 have hβ:∀ b,b < H.length → β' b = β b:=fun b hb=>hs.old b hb
 have hown:∀ c,Own β F c → ∃ (b:Nat) (k0 f:Blk) (L:Loc),H[b]? = some k0 ∧ k0.mode = .own ∧ β b = some L ∧ L.c = c ∧ F[b]? = some f ∧ f.mode = .own:=by
  rintro c ⟨b,k,L,h1,h2,h3,h4⟩
  obtain ⟨k0,h5,h6⟩:=hFo b k L h1 h2 h3
  exact ⟨b,k0,k,L,h5,h6,h3,h4,h1,h2⟩
 have hsub:∀ c,Own β F c → Own β H c:=by
  intro c hc
  obtain ⟨b,k0,f,L,h1,h2,h3,h4,_⟩:=hown c hc
  exact ⟨b,k0,L,h1,h2,h3,h4⟩
 have hfree:∀ (b:Nat) k L,H[b]? = some k → k.mode.alive → β b = some L → (∃ f,F[b]? = some f ∧ f.mode ≠ .own) → ¬ Own β F L.c:=by
  rintro b k L h1 h2 h3 ⟨f,h4,h5⟩ ho
  obtain ⟨b2,k2,f2,L2,g1,g2,g3,g4,g5,g6⟩:=hown _ ho
  refine hH.dis b2 b k2 k L2 L (fun e=>?_) g1 h1 g2 h2 g3 h3 g4
  subst e;rw [h4] at g5;injection g5 with g5;subst g5;exact h5 g6
 refine ⟨⟨fun b k hk ha=>?_,fun b b' k k' L L' hne hk hk' ho ha hL hL'=>?_,fun b L hL=>by rw [l3];exact hK.dom b L hL,hK.glob,fun b k L hk ho hL=>?_⟩,
  ⟨hs.le,by omega,hs.os,hs.tape,hs.output,hs.size,fun c hc hn=>hs.kept c hc (fun ho=>hn (hsub c ho)),fun c hc ⟨b,k,L,hk,ho,hL,hcc⟩=>?_,fun b hb=>hβ b hb⟩⟩
 ·rcases key b k hk with ⟨g1,_,_⟩ | ⟨g1,g2⟩
  ·exact hK.blk b k g1 ha
  ·rcases hH.blk b k g1 ha with ⟨L,hL,hbr⟩ | ⟨e1,e2⟩
   ·exact .inl ⟨L,hs.le b L hL,hbr.mono hs.le hs.size (hs.kept _ (hbr.lt ha) (hfree b k L g1 ha hL g2))⟩
   ·exact .inr ⟨e1,by rw [hβ b (hlt g1)];exact e2⟩
 ·rcases key b k hk with ⟨g1,_,_⟩ | ⟨g1,g2⟩
  ·rcases key b' k' hk' with ⟨g1',_,_⟩ | ⟨g1',g2'⟩
   ·exact hK.dis b b' k k' L L' hne g1 g1' ho ha hL hL'
   ·rw [hβ b' (hlt g1')] at hL'
    intro e
    refine hfree b' k' L' g1' ha hL' g2' (hs.own _ (hH.lt g1' ha hL') ⟨b,k,L,g1,ho,hL,e⟩)
  ·rw [hβ b (hlt g1)] at hL
   rcases key b' k' hk' with ⟨g1',g3,_⟩ | ⟨g1',g2'⟩
   ·intro e
    have ho':k'.mode = .own:=by
     cases hm':k'.mode with
     | own=>rfl
     | ro=>exact absurd hm' g3
     | dead=>exact absurd hm' ha
    exact hfree b k L g1 (own_alive ho) hL g2 (hs.own _ (hH.lt g1 (own_alive ho) hL) ⟨b',k',L',g1',ho',hL',e.symm⟩)
   ·rw [hβ b' (hlt g1')] at hL'
    exact hH.dis b b' k k' L L' hne g1 g1' ho ha hL hL'
 ·rcases key b k hk with ⟨g1,_,_⟩ | ⟨g1,_⟩
  ·exact hK.apart b k L g1 ho hL
  ·rw [hβ b (hlt g1)] at hL
   exact hH.apart b k L g1 ho hL
 ·rcases key b k hk with ⟨g1,_,_⟩ | ⟨g1,_⟩
  ·exact hsub c (hs.own c hc ⟨b,k,L,g1,ho,hL,hcc⟩)
  ·rw [hβ b (hlt g1)] at hL
   exact ⟨b,k,L,g1,ho,hL,hcc⟩
theorem wk_in {β:Map} {gh ps H F:List Blk} {w:World} (hg:∀ k ∈ gh,k.data.len = 0) (hH:HRel G β H w) (h:cH ps (H ++ gh) = some F) :
 HRel G β F w ∧ (∀ (b:Nat) k L,F[b]? = some k → k.mode = .own → β b = some L → ∃ k0,H[b]? = some k0 ∧ k0.mode = .own) ∧ H.length ≤ F.length:=by
 obtain ⟨g1,_⟩:=hH.ghost hg
 obtain ⟨g3,g4⟩:=g1.conf h
 refine ⟨g3,fun b k L hk ho hL=>?_,by rw [(cH_get h).1,List.length_append];omega⟩
 obtain ⟨k0,e1,e2⟩:=g4 b k hk ho
 have:=hH.dom b L hL
 rw [List.getElem?_append_left this] at e1
 exact ⟨k0,e1,e2⟩
end
def iter {D:Type} (f:D → D):Nat → D → D
 | 0,d=>d
 | n + 1,d=>iter f n (f d)
theorem iter_succ {D:Type} (f:D → D):∀ (n:Nat) (d:D),iter f (n + 1) d = f (iter f n d)
 | 0,_=>rfl
 | n + 1,d=>by rw [iter,iter_succ f n (f d)];rfl
structure LoopT (D:Type) where
 parse:Fr → List Blk → Option D
 gh:List Blk
 st:D → Fr × List Blk
 next:D → D
 rem:D → Nat
 good:D → Bool
 out:Out
 fin:D → Fr × List Blk
def LoopT.told {D:Type} (T:LoopT D):LSpec:=fun F S=>
 match T.parse F S.H with
 | none=>none
 | some d=>
  match mergeH S.H (T.st d).2 (T.fin (iter T.next (T.rem d) d)).2 with
  | none=>none
  | some R=>some (T.out,(T.fin (iter T.next (T.rem d) d)).1,{ H:=R,low:=0,dec:=S.dec,cond:=T.good d :: S.cond })
section
variable {P:Program} {G:Nat → Option (List AV)} {nv nt:Nat}
theorem loop_toldN {D:Type} (T:LoopT D) (N:D → Nat) (hN:∀ F H d,T.parse F H = some d → N d = H.length) {b:Code} {f:Fr → St → Option (Out × Fr × St)} (hb:RunOk P G nv nt b f)
 (hg:∀ k ∈ T.gh,k.data.len = 0)
 (hin:∀ F H d,T.parse F H = some d → wkF none (T.st d).1 F = some (T.st d).1 ∧ cH (T.st d).2 (H ++ T.gh) = some (T.st d).2)
 (hround:∀ d k,T.good d = true → T.rem d = k + 1 → ∃ dec F' S' rs,f (T.st d).1 ⟨(T.st d).2,big,dec,[]⟩ = some (.normal,F',S') ∧ S'.ok ∧
  wkF rs (T.st (T.next d)).1 F' = some (T.st (T.next d)).1 ∧ wkH (N d) [] rs (T.st (T.next d)).2 S'.H = some (T.st (T.next d)).2 ∧ T.good (T.next d) = true ∧ T.rem (T.next d) = k ∧ N (T.next d) = N d)
 (hend:∀ d,T.good d = true → T.rem d = 0 → ∃ dec F' S' rs,f (T.st d).1 ⟨(T.st d).2,big,dec,[]⟩ = some (T.out,F',S') ∧ S'.ok ∧ (T.out = .normal → False) ∧
  wkF rs (T.fin d).1 F' = some (T.fin d).1 ∧ wkH (N d) [] rs (T.fin d).2 S'.H = some (T.fin d).2) :
 LoopOk P G nv nt b T.told:=by
 intro F S o F' S' h
 unfold LoopT.told at h
 split at h
 ·cases h
 rename_i d hd
 split at h
 ·cases h
 rename_i R hR
 simp only [Option.some.injEq,Prod.mk.injEq] at h
 obtain ⟨rfl,rfl,rfl⟩:=h
 obtain ⟨hf1,hh1⟩:=hin F S.H d hd
 obtain ⟨m1,m2,m3,m4⟩:=mergeH_spec hR
 have hstlen:(T.st d).2.length = S.H.length + T.gh.length:=by rw [(cH_get hh1).1,List.length_append]
 refine ⟨⟨fun ok x hx=>ok x (List.mem_cons_of_mem _ hx),Nat.zero_le _,by simp only;omega,fun b hb hl=>absurd hl (Nat.not_lt_zero _),fun b k hk hm=>?_,fun b k hk hm=>?_⟩,fun ok β a w hF hH Q hQ=>?_⟩
 ·
  simp only [lget_eq] at hk ⊢
  have hb:b < S.H.length:=(List.getElem?_eq_some_iff.1 hk).1
  have hbR:b < R.length:=by omega
  rcases m4 b _ (List.getElem?_eq_getElem hbR) with ⟨_,_,g3⟩ | ⟨g1,_⟩
  ·obtain ⟨f0,e1,e2⟩:=g3 hb
   obtain ⟨k1,e3,e4⟩:=(cH_get hh1).2 b f0 e1
   rw [List.getElem?_append_left hb,hk] at e3
   injection e3 with e3;subst e3
   rcases e4 with e4 | ⟨e4,_⟩
   ·rw [e2] at e4;cases e4
   ·exact absurd hm e4
  ·rw [hk] at g1;rw [g1,List.getElem?_eq_getElem hbR]
 ·simp only [lget_eq] at hk ⊢
  rcases m4 b k hk with ⟨_,g2,_⟩ | ⟨g1,_⟩
  ·exact absurd hm g2
  ·exact g1
 ·have hgood:T.good d = true:=ok _ (List.mem_cons_self ..)
  obtain ⟨i1,i2,i3⟩:=wk_in hg hH hh1
  obtain ⟨β0,_,_,_,_,htr⟩:=wk_ok (n0:=0) (gh:=T.gh) (rs:=none) (ps:=(T.st d).2) hg (by simp only [wkH];exact hh1) (Nat.zero_le _) hH
  have hF0:FRel nv nt β (T.st d).1 a:=by
   refine wkF_rel (β:=β) (β':=β) (rs:=none) (fun p x y v hy hx=>?_) hf1 hF
   unfold wkV at hy
   split at hy
   ·injection hy with hy;subst hy;exact .undef _
   ·exact cV_ok hx hy
  have hdom:∀ b L,β b = some L → b < S.H.length:=hH.dom
  refine lwp_loop_n (fun n a' w'=>∃ d' β',n = T.rem d' ∧ T.good d' = true ∧ iter T.next (T.rem d') d' = iter T.next (T.rem d) d ∧ N d' = N d ∧ FRel nv nt β' (T.st d').1 a' ∧ HRel G β' (T.st d').2 w' ∧ Stq S.H.length β (T.st d).2 w β' (T.st d').2 w')
   (n:=T.rem d) ⟨d,β,rfl,hgood,rfl,rfl,hF0,i1,(Stp.refl ..).q i3⟩ ?_
  rintro n a' w' ⟨d',β',rfl,hgd,hit,hln,hF',hH',hS'⟩
  cases hr:T.rem d' with
  | zero=>
   obtain ⟨dec,F2,S2,rs,r1,r2,r2',r3,r4⟩:=hend d' hgd hr
   have hn0:N d' = S.H.length:=hln.trans (hN F S.H d hd)
   rw [hn0] at r4
   obtain ⟨x1,x2⟩:=hb _ _ _ _ _ r1
   refine x2 r2 β' a' w' hF' hH' _ fun a2 w2 β2 q1 q2 q3=>?_
   have hlen2:S.H.length ≤ S2.H.length:=by have h8:=hS'.len;have:=x1.len;simp only at this;omega
   obtain ⟨β3,p1,p2,p3,p4,p5⟩:=wk_ok (n0:=S.H.length) (gh:=[]) (by simp) r4 hlen2 q2
   have hF3:=wkF_rel p5 r3 q1
   have e:T.fin (iter T.next (T.rem d) d) = T.fin d':=by rw [← hit,hr];rfl
   rw [e] at hR hQ
   obtain ⟨z1,z2⟩:=merge_ok hH i1 i2 p1 ((hS'.trans q3).wk hdom p2 p3 p4) hR
   have hfin:=hQ a2 w2 β3 hF3 z1 z2
   cases ho:T.out with
   | normal=>exact absurd ho r2'
   | exit i=>rw [ho] at hfin;exact hfin
   | ret=>rw [ho] at hfin;exact hfin
  | succ k=>
   obtain ⟨dec,F2,S2,rs,r1,r2,r3,r4,r5,r6,r7⟩:=hround d' k hgd hr
   have hn0:N d' = S.H.length:=hln.trans (hN F S.H d hd)
   rw [hn0] at r4
   obtain ⟨x1,x2⟩:=hb _ _ _ _ _ r1
   refine x2 r2 β' a' w' hF' hH' _ fun a2 w2 β2 q1 q2 q3=>?_
   have hlen2:S.H.length ≤ S2.H.length:=by have h8:=hS'.len;have:=x1.len;simp only at this;omega
   obtain ⟨β3,p1,p2,p3,p4,p5⟩:=wk_ok (n0:=S.H.length) (gh:=[]) (by simp) r4 hlen2 q2
   have hF3:=wkF_rel p5 r3 q1
   refine ⟨k,Nat.lt_succ_self k,T.next d',β3,r6.symm,r5,?_,r7.trans hln,hF3,p1,(hS'.trans q3).wk hdom p2 p3 p4⟩
   rw [← hit,hr,r6];rfl
theorem loop_toldL {D:Type} (T:LoopT D) {b:Code} {f:Fr → St → Option (Out × Fr × St)} (hb:RunOk P G nv nt b f)
 (hg:∀ k ∈ T.gh,k.data.len = 0)
 (hin:∀ F H d,T.parse F H = some d → wkF none (T.st d).1 F = some (T.st d).1 ∧ cH (T.st d).2 (H ++ T.gh) = some (T.st d).2)
 (hround:∀ d k,T.good d = true → T.rem d = k + 1 → ∃ dec F' S' rs,f (T.st d).1 ⟨(T.st d).2,big,dec,[]⟩ = some (.normal,F',S') ∧ S'.ok ∧
  wkF rs (T.st (T.next d)).1 F' = some (T.st (T.next d)).1 ∧ wkH ((T.st d).2.length - T.gh.length) [] rs (T.st (T.next d)).2 S'.H = some (T.st (T.next d)).2 ∧ T.good (T.next d) = true ∧ T.rem (T.next d) = k ∧ (T.st (T.next d)).2.length = (T.st d).2.length)
 (hend:∀ d,T.good d = true → T.rem d = 0 → ∃ dec F' S' rs,f (T.st d).1 ⟨(T.st d).2,big,dec,[]⟩ = some (T.out,F',S') ∧ S'.ok ∧ (T.out = .normal → False) ∧
  wkF rs (T.fin d).1 F' = some (T.fin d).1 ∧ wkH ((T.st d).2.length - T.gh.length) [] rs (T.fin d).2 S'.H = some (T.fin d).2) :
 LoopOk P G nv nt b T.told:=by
 refine loop_toldN T (fun d=>(T.st d).2.length - T.gh.length) (fun F H d h=>?_) hb hg hin (fun d k h1 h2=>?_) hend
 ·have:=(cH_get (hin F H d h).2).1
  simp only [this,List.length_append];omega
 ·obtain ⟨dec,F',S',rs,g1,g2,g3,g4,g5,g6,g7⟩:=hround d k h1 h2
  exact ⟨dec,F',S',rs,g1,g2,g3,g4,g5,g6,by rw [g7]⟩
theorem SpecOk.run {f:FuncId} {sp:Spec} {call:CallF} (hc:CallOk P G call)
 (h:∀ args H dec r,sp args H dec = some r → (∀ x ∈ r.cond,x = true) → ∃ pa pH args' H' dec' v' S' rs K,wkL none pa args = some args' ∧ cH pH H = some H' ∧ call f args' ⟨H',big,dec',[]⟩ = some (v',S') ∧ S'.ok ∧
  wkH H.length [] rs K S'.H = some K ∧ wkV rs r.v v' = some r.v ∧ mergeH H H' K = some r.H)
 (hro:∀ args H dec r,sp args H dec = some r → ∀ (i:Nat) k,r.H[i]? = some k → k.mode = .ro → ∃ k',H[i]? = some k' ∧ k'.mode = .ro):SpecOk P G f sp:=by
 intro args H dec r hr
 refine ⟨hro args H dec r hr,fun hcond β w vs hargs hH=>?_⟩
 obtain ⟨pa,pH,args',H',dec',v',S',rs,K,h1,h2,h3,h4,h5,h6,h7⟩:=h args H dec r hr hcond
 obtain ⟨i1,i2,i3⟩:=wk_in (gh:=[]) (by simp) hH (by rw [List.append_nil];exact h2)
 obtain ⟨g1,g2⟩:=hc _ _ _ _ _ h3
 have hargs':LRel β args' vs:=by
  refine wkL_rel (β:=β) (rs:=none) (fun p x y v hy hx=>?_) h1 hargs
  unfold wkV at hy
  split at hy
  ·injection hy with hy;subst hy;exact .undef _
  ·exact cV_ok hx hy
 obtain ⟨hf,hcalls⟩:=g2 h4 β w vs hargs' i1
 refine ⟨hf,hcalls.mono ?_⟩
 rintro e w' ⟨u,β2,rfl,q1,q2,q3⟩
 have hlen2:H.length ≤ S'.H.length:=by have:=g1.len;simp only at this;omega
 obtain ⟨β3,p1,p2,p3,p4,p5⟩:=wk_ok (n0:=H.length) (gh:=[]) (by simp) h5 hlen2 q2
 obtain ⟨z1,z2⟩:=merge_ok hH i1 i2 p1 ((q3.q i3).wk hH.dom p2 p3 p4) h7
 exact ⟨u,β3,rfl,p5 _ _ _ _ h6 q1,z1,z2⟩
end
def endsAs (n0:Nat) (rs:Option (List Nat)) (K:List Blk) (v:AV) (r:Option (AV × St)):Option (List Blk × AV × List Bool):=
 match r with
 | none=>none
 | some (v',S')=>
  match wkH n0 [] rs K S'.H with
  | none=>none
  | some K'=>
   match wkV rs v v' with
   | none=>none
   | some v=>some (K',v,S'.cond)
theorem endsAs_inv {n0:Nat} {rs:Option (List Nat)} {K K':List Blk} {v u:AV} {r:Option (AV × St)} {cs:List Bool} (h:endsAs n0 rs K v r = some (K',u,cs)) :
 ∃ v' S',r = some (v',S') ∧ wkH n0 [] rs K S'.H = some K' ∧ wkV rs v v' = some u ∧ S'.cond = cs:=by
 unfold endsAs at h
 split at h
 ·cases h
 ·rename_i v' S'
  split at h
  ·cases h
  ·rename_i K2 hK
   split at h
   ·cases h
   ·rename_i v2 hv
    simp only [Option.some.injEq,Prod.mk.injEq] at h
    obtain ⟨rfl,rfl,rfl⟩:=h
    exact ⟨v',S',rfl,hK,hv,rfl⟩
theorem SpecOk.ends {P:Program} {G:Nat → Option (List AV)} {f:FuncId} {sp:Spec} {call:CallF} (hc:CallOk P G call)
 (h:∀ args H dec r,sp args H dec = some r → (∀ x ∈ r.cond,x = true) → ∃ pa pH args' H' dec' rs K cs,wkL none pa args = some args' ∧ cH pH H = some H' ∧ endsAs H.length rs K r.v (call f args' ⟨H',big,dec',[]⟩) = some (K,r.v,cs) ∧
  (∀ x ∈ cs,x = true) ∧ mergeH H H' K = some r.H)
 (hro:∀ args H dec r,sp args H dec = some r → ∀ (i:Nat) k,r.H[i]? = some k → k.mode = .ro → ∃ k',H[i]? = some k' ∧ k'.mode = .ro):SpecOk P G f sp:=by
 refine SpecOk.run hc (fun args H dec r hr hcond=>?_) hro
 obtain ⟨pa,pH,args',H',dec',rs,K,cs,h1,h2,h3,h4,h5⟩:=h args H dec r hr hcond
 obtain ⟨v',S',e1,e2,e3,e4⟩:=endsAs_inv h3
 exact ⟨pa,pH,args',H',dec',v',S',rs,K,h1,h2,e1,fun x hx=>h4 x (by rw [← e4];exact hx),e2,e3,h5⟩
def ranAs (n0:Nat) (rs:Option (List Nat)) (p:Fr × List Blk) (r:Option (Out × Fr × St)):Option (Out × (Fr × List Blk) × List Bool):=
 match r with
 | none=>none
 | some (o,F',S')=>
  match wkF rs p.1 F' with
  | none=>none
  | some F=>
   match wkH n0 [] rs p.2 S'.H with
   | none=>none
   | some H=>some (o,(F,H),S'.cond)
theorem ranAs_inv {n0:Nat} {rs:Option (List Nat)} {p q:Fr × List Blk} {r:Option (Out × Fr × St)} {o:Out} {cs:List Bool} (h:ranAs n0 rs p r = some (o,q,cs)) :
 ∃ F' S',r = some (o,F',S') ∧ wkF rs p.1 F' = some q.1 ∧ wkH n0 [] rs p.2 S'.H = some q.2 ∧ S'.cond = cs:=by
 unfold ranAs at h
 split at h
 ·cases h
 ·rename_i o' F' S'
  split at h
  ·cases h
  ·rename_i F hF
   split at h
   ·cases h
   ·rename_i H hH
    simp only [Option.some.injEq,Prod.mk.injEq] at h
    obtain ⟨rfl,rfl,rfl⟩:=h
    exact ⟨F',S',rfl,hF,hH,rfl⟩
theorem loop_ranL {P:Program} {G:Nat → Option (List AV)} {nv nt:Nat} {D:Type} (T:LoopT D) {b:Code} {f:Fr → St → Option (Out × Fr × St)} (hb:RunOk P G nv nt b f)
 (hg:∀ k ∈ T.gh,k.data.len = 0) (hout:T.out = .normal → False)
 (hin:∀ F H d,T.parse F H = some d → wkF none (T.st d).1 F = some (T.st d).1 ∧ cH (T.st d).2 (H ++ T.gh) = some (T.st d).2)
 (hround:∀ d k,T.good d = true → T.rem d = k + 1 → (∃ dec rs cs,ranAs ((T.st d).2.length - T.gh.length) rs (T.st (T.next d)) (f (T.st d).1 ⟨(T.st d).2,big,dec,[]⟩) = some (.normal,T.st (T.next d),cs) ∧ (∀ x ∈ cs,x = true)) ∧
  T.good (T.next d) = true ∧ T.rem (T.next d) = k ∧ (T.st (T.next d)).2.length = (T.st d).2.length)
 (hend:∀ d,T.good d = true → T.rem d = 0 → ∃ dec rs cs,ranAs ((T.st d).2.length - T.gh.length) rs (T.fin d) (f (T.st d).1 ⟨(T.st d).2,big,dec,[]⟩) = some (T.out,T.fin d,cs) ∧ (∀ x ∈ cs,x = true)) :
 LoopOk P G nv nt b T.told:=by
 refine loop_toldL T hb hg hin (fun d k h1 h2=>?_) (fun d h1 h2=>?_)
 ·obtain ⟨⟨dec,rs,cs,g1,g2⟩,g3,g4,g5⟩:=hround d k h1 h2
  obtain ⟨F',S',e1,e2,e3,e4⟩:=ranAs_inv g1
  exact ⟨dec,F',S',rs,e1,fun x hx=>g2 x (by rw [← e4];exact hx),e2,e3,g3,g4,g5⟩
 ·obtain ⟨dec,rs,cs,g1,g2⟩:=hend d h1 h2
  obtain ⟨F',S',e1,e2,e3,e4⟩:=ranAs_inv g1
  exact ⟨dec,F',S',rs,e1,fun x hx=>g2 x (by rw [← e4];exact hx),hout,e2,e3⟩
def depthOk:Nat → Code → Bool
 | 0,_=>false
 | n + 1,c=>
  match c with
  | .seq a b=>
   match depthOk n a with
   | true=>depthOk n b
   | false=>false
  | .cond _ a b=>
   match depthOk n a with
   | true=>depthOk n b
   | false=>false
  | .block _ b=>depthOk n b
  | .loop b=>depthOk n b
  | _=>true
theorem loops_deep:∀ (K:Nat) (c:Code),depthOk K c = true → ∀ k,∀ b ∈ loopsOf k c,b ∈ loopsOf K c:=by
 intro K
 induction K with
 | zero=>intro c h;simp [depthOk] at h
 | succ K ih=>
  intro c h k b hb
  cases k with
  | zero=>simp [loopsOf] at hb
  | succ k=>
   cases c with
   | seq x y=>
    simp only [depthOk] at h
    split at h
    ·rename_i hx
     simp only [loopsOf,List.mem_append] at hb ⊢
     rcases hb with hb | hb
     ·exact .inl (ih x hx k b hb)
     ·exact .inr (ih y h k b hb)
    ·cases h
   | cond t x y=>
    simp only [depthOk] at h
    split at h
    ·rename_i hx
     simp only [loopsOf,List.mem_append] at hb ⊢
     rcases hb with hb | hb
     ·exact .inl (ih x hx k b hb)
     ·exact .inr (ih y h k b hb)
    ·cases h
   | block i x=>
    simp only [depthOk] at h
    simp only [loopsOf] at hb ⊢
    exact ih x h k b hb
   | loop x=>
    simp only [depthOk] at h
    simp only [loopsOf,List.mem_cons] at hb ⊢
    rcases hb with hb | hb
    ·exact .inl hb
    ·exact .inr (ih x h k b hb)
   | _=>simp [loopsOf] at hb
end
section
variable [RowAddr] [Co]
def orSpec (a b:Spec):Spec:=fun args H dec=>
 match a args H dec with
 | some r=>some r
 | none=>b args H dec
theorem SpecOk.or {P:Program} {G:Nat → Option (List AV)} {f:FuncId} {a b:Spec} (ha:SpecOk P G f a) (hb:SpecOk P G f b):SpecOk P G f (orSpec a b):=by
 intro args H dec r hr
 unfold orSpec at hr
 split at hr
 ·rename_i r' h
  injection hr with hr;subst hr
  exact ha args H dec _ h
 ·exact hb args H dec r hr
end
section
variable [RowAddr] [Co]
theorem codeOk_loop {P:Program} {nt:Nat} {dyn:Nat → Bool}:∀ (n:Nat) (c:Code),codeOk P nt dyn n c = true → ∀ k,∀ b ∈ loopsOf k c,∃ m,codeOk P nt dyn m b = true:=by
 intro n
 induction n with
 | zero=>intro c h;simp [codeOk] at h
 | succ n ih=>
  intro c h k b hb
  cases k with
  | zero=>simp [loopsOf] at hb
  | succ k=>
   cases c with
   | seq x y=>
    simp only [codeOk] at h
    split at h
    ·rename_i hx
     simp only [loopsOf,List.mem_append] at hb
     rcases hb with hb | hb
     ·exact ih x hx k b hb
     ·exact ih y h k b hb
    ·cases h
   | cond t x y=>
    simp only [codeOk] at h
    split at h
    ·rename_i hx
     simp only [loopsOf,List.mem_append] at hb
     rcases hb with hb | hb
     ·exact ih x hx k b hb
     ·exact ih y h k b hb
    ·cases h
   | block i x=>
    simp only [codeOk] at h
    simp only [loopsOf] at hb
    exact ih x h k b hb
   | loop x=>
    simp only [codeOk] at h
    simp only [loopsOf,List.mem_cons] at hb
    rcases hb with rfl | hb
    ·exact ⟨n,h⟩
    ·exact ih x h k b hb
   | _=>simp [loopsOf] at hb
theorem loopsOf_in:∀ (k:Nat) (c b:Code),b ∈ loopsOf k c → ∀ k2,∀ b2 ∈ loopsOf k2 b,∃ k3,b2 ∈ loopsOf k3 c:=by
 intro k
 induction k with
 | zero=>intro c b h;simp [loopsOf] at h
 | succ k ih=>
  intro c b h k2 b2 h2
  cases c with
  | seq x y=>
   simp only [loopsOf,List.mem_append] at h
   rcases h with h | h
   ·obtain ⟨k3,h3⟩:=ih x b h k2 b2 h2
    exact ⟨k3 + 1,by simp only [loopsOf,List.mem_append];exact .inl h3⟩
   ·obtain ⟨k3,h3⟩:=ih y b h k2 b2 h2
    exact ⟨k3 + 1,by simp only [loopsOf,List.mem_append];exact .inr h3⟩
  | cond t x y=>
   simp only [loopsOf,List.mem_append] at h
   rcases h with h | h
   ·obtain ⟨k3,h3⟩:=ih x b h k2 b2 h2
    exact ⟨k3 + 1,by simp only [loopsOf,List.mem_append];exact .inl h3⟩
   ·obtain ⟨k3,h3⟩:=ih y b h k2 b2 h2
    exact ⟨k3 + 1,by simp only [loopsOf,List.mem_append];exact .inr h3⟩
  | block i x=>
   simp only [loopsOf] at h
   obtain ⟨k3,h3⟩:=ih x b h k2 b2 h2
   exact ⟨k3 + 1,by simp only [loopsOf];exact h3⟩
  | loop x=>
   simp only [loopsOf,List.mem_cons] at h
   rcases h with rfl | h
   ·exact ⟨k2 + 1,by simp only [loopsOf,List.mem_cons];exact .inr h2⟩
   ·obtain ⟨k3,h3⟩:=ih x b h k2 b2 h2
    exact ⟨k3 + 1,by simp only [loopsOf,List.mem_cons];exact .inr h3⟩
  | _=>simp [loopsOf] at h
def bodyIn (P:Program) (f:FuncId):Code:=
 match P.funcs[f]? with
 | some fn=>
  match fn.body with
  | some c=>c
  | none=>.skip
 | none=>.skip
def ntmpsIn (P:Program) (f:FuncId):Nat:=
 match P.funcs[f]? with
 | some fn=>fn.ntmps
 | none=>0
def loopsIn (P:Program) (f:FuncId):List Code:=loopsOf 300 (bodyIn P f)
def loopIn (P:Program) (f i:Nat):Code:=(loopsIn P f).getD i .skip
theorem exec_loop {C:Cfg} [ExtOk C] {G:Nat → Option (List AV)} (hG:C.glob = G) {call:CallF} (hcall:CallOk C.P G call) (hm:MethOk C.P C.meth) (hmix:C.P.follows .mixedOrders = true) (hl:LoopsOk C G) {f:FuncId} (hf:fnOk C f = true) (fuel i:Nat) (hi:i < (loopsIn C.P f).length) :
 RunOk C.P G (C.nv f) (ntmpsIn C.P f) (loopIn C.P f i) (exec C fuel (loopIn C.P f i) ⟨call,C.nv f,C.keep f,C.dyn f,C.loop f⟩):=by
 have hmem:loopIn C.P f i ∈ loopsIn C.P f:=by
  unfold loopIn
  rw [List.getD_eq_getElem?_getD,List.getElem?_eq_getElem hi]
  exact List.getElem_mem hi
 revert hmem
 generalize loopIn C.P f i = b
 intro hmem
 unfold fnOk at hf
 unfold loopsIn bodyIn at hmem
 unfold ntmpsIn
 split at hf
 ·cases hf
 rename_i fn hfn
 split at hf
 ·cases hf
 rename_i c hc
 split at hf
 ·cases hf
 simp only [hfn,hc] at hmem ⊢
 obtain ⟨m,hmb⟩:=codeOk_loop _ _ hf _ _ hmem
 exact exec_ok (C:=C) (G:=G) (nt:=fn.ntmps) hG (E:=⟨call,C.nv f,C.keep f,C.dyn f,C.loop f⟩) hcall hm hmix fuel m _ hmb (fun k b2 hb2 sp hsp=>by
  obtain ⟨k3,h3⟩:=loopsOf_in _ _ _ hmem k b2 hb2
  exact hl f fn c hfn hc k3 b2 h3 sp hsp)
theorem LoopsOk.of {C:Cfg} {G:Nat → Option (List AV)} (h:∀ f,(∀ r,C.loop f r = Option.none) ∨ (depthOk 300 (bodyIn C.P f) = true ∧ ∀ i,i < (loopsIn C.P f).length → ∀ sp,(firstRid (loopIn C.P f i)).bind (C.loop f) = some sp → RunOk C.P G (C.nv f) (ntmpsIn C.P f) (.loop (loopIn C.P f i)) sp)):LoopsOk C G:=by
 intro f fn c hfn hc k b hb sp hsp
 have e1:bodyIn C.P f = c:=by simp only [bodyIn,hfn,hc]
 have e2:ntmpsIn C.P f = fn.ntmps:=by simp only [ntmpsIn,hfn]
 rcases h f with h | ⟨h1,h2⟩
 ·cases hr:firstRid b with
  | none=>rw [hr] at hsp;cases hsp
  | some r=>rw [hr] at hsp;simp [h] at hsp
 ·rw [e1] at h1
  have hm:=loops_deep 300 c h1 k b hb
  obtain ⟨i,hi,rfl⟩:=List.getElem_of_mem hm
  have e3:loopsIn C.P f = loopsOf 300 c:=by simp only [loopsIn,e1]
  have e4:loopIn C.P f i = (loopsOf 300 c)[i]:=by
   unfold loopIn
   rw [e3,List.getD_eq_getElem?_getD,List.getElem?_eq_getElem hi];rfl
  have:=h2 i (by rw [e3];exact hi) sp (by rw [e4];exact hsp)
  rw [e4,e2] at this
  exact this
end
section
variable [RowAddr] [Co]
def mvN (m n b:Nat):Nat:=
 match Nat.beq b m with
 | true=>n
 | false=>b
def mvT (f:Nat → Nat):List (Nat × AV) → List (Nat × AV)
 | []=>[]
 | (k,v) :: r=>(k,renV f v) :: mvT f r
def mvF (f:Nat → Nat) (F:Fr):Fr:=⟨renL f F.vars,mvT f F.tmps⟩
def mvS (m:Nat) (d:Data) (S:St):St:={ S with H:=lset ⟨.gen [],.dead⟩ m S.H ++ [⟨d,.own⟩],low:=Nat.min S.low m }
theorem assoc_mv (f:Nat → Nat) (t:Nat):∀ l:List (Nat × AV),assoc t (mvT f l) = renV f (assoc t l)
 | []=>rfl
 | (k,v) :: r=>by
  simp only [mvT,assoc]
  split
  ·rfl
  ·exact assoc_mv f t r
theorem get_mv (f:Nat → Nat) (nv:Nat) (F:Fr) (t:Nat):(mvF f F).get nv t = renV f (F.get nv t):=by
 unfold Fr.get mvF
 split
 ·simp only [renL_map,lget_eq,List.getElem?_map]
  cases F.vars[t]? <;> rfl
 ·exact assoc_mv f t F.tmps
section
variable {G:Nat → Option (List AV)} {β:Map} {w:World}
def mvB (β:Map) (m n:Nat):Map:=fun b=>if b = n then β m else β b
theorem mv_h {m:Nat} {d:Data} {S:St} (hH:HRel G β S.H w) (hm:S.H[m]? = some ⟨d,.own⟩) :
 Map.le β (mvB β m S.H.length) ∧ HRel G (mvB β m S.H.length) (mvS m d S).H w ∧ Stp β S.H w (mvB β m S.H.length) (mvS m d S).H w ∧ ∀ b L,β b = some L → mvB β m S.H.length (mvN m S.H.length b) = some L:=by
 have hmn:m < S.H.length:=by
  rcases Nat.lt_or_ge m S.H.length with h | h
  ·exact h
  ·rw [List.getElem?_eq_none h] at hm;cases hm
 have hle:Map.le β (mvB β m S.H.length):=fun b L hb=>by
  have:=hH.dom b L hb
  unfold mvB
  rw [if_neg (by omega)];exact hb
 have hget:∀ b k,(mvS m d S).H[b]? = some k → (b = m ∧ k = ⟨.gen [],.dead⟩) ∨ (b = S.H.length ∧ k = ⟨d,.own⟩) ∨ (b ≠ m ∧ b < S.H.length ∧ S.H[b]? = some k):=by
  intro b k hb
  show _ ∨ _ ∨ _
  have hb:(lset ⟨.gen [],.dead⟩ m S.H ++ [⟨d,.own⟩])[b]? = some k:=hb
  rw [lset_eq] at hb
  rcases Nat.lt_or_ge b S.H.length with h | h
  ·rw [List.getElem?_append_left (by rw [List.length_set];exact h)] at hb
   by_cases e:b = m
   ·subst e
    rw [List.getElem?_set_self h] at hb
    injection hb with hb
    exact .inl ⟨rfl,hb.symm⟩
   ·rw [List.getElem?_set_ne (Ne.symm e)] at hb
    exact .inr (.inr ⟨e,h,hb⟩)
  ·rw [List.getElem?_append_right (by rw [List.length_set];exact h),List.length_set] at hb
   have:b - S.H.length = 0:=by
    rcases Nat.eq_zero_or_pos (b - S.H.length) with h | h
    ·exact h
    ·rw [List.getElem?_eq_none (by simp;omega)] at hb;cases hb
   rw [this] at hb
   simp at hb
   exact .inr (.inl ⟨by omega,hb.symm⟩)
 have hb1:∀ b,b ≠ S.H.length → mvB β m S.H.length b = β b:=fun b hb=>if_neg hb
 have hb2:mvB β m S.H.length S.H.length = β m:=if_pos rfl
 refine ⟨hle,⟨fun b k hb ha=>?_,fun b b' k k' L L' hne hb hb' ho ha hL hL'=>?_,fun b L hb=>?_,hH.glob,fun b k L hb ho hL g l hg=>?_⟩,⟨hle,?_,rfl,rfl,rfl,Nat.le_refl _,fun _ _ _=>Kp.refl _ _,fun c hc ho=>?_,fun b hb=>hb1 b (by omega)⟩,fun b L hb=>?_⟩
 ·rcases hget b k hb with ⟨_,rfl⟩ | ⟨rfl,rfl⟩ | ⟨h1,h2,h3⟩
  ·exact absurd rfl ha
  ·rw [hb2]
   rcases hH.blk m _ hm ha with ⟨L,hL,hB⟩ | h
   ·exact .inl ⟨L,hL,hB.mono hle (Nat.le_refl _) (Kp.refl _ _)⟩
   ·exact .inr h
  ·rw [hb1 b (by omega)]
   rcases hH.blk b k h3 ha with ⟨L,hL,hB⟩ | h
   ·exact .inl ⟨L,hL,hB.mono hle (Nat.le_refl _) (Kp.refl _ _)⟩
   ·exact .inr h
 ·rcases hget b k hb with ⟨_,rfl⟩ | ⟨rfl,rfl⟩ | ⟨h1,h2,h3⟩
  ·cases ho
  ·rcases hget b' k' hb' with ⟨_,rfl⟩ | ⟨rfl,rfl⟩ | ⟨h1',h2',h3'⟩
   ·exact absurd rfl ha
   ·exact absurd rfl hne
   ·rw [hb2] at hL
    rw [hb1 b' (by omega)] at hL'
    exact hH.dis m b' _ k' L L' (Ne.symm h1') hm h3' rfl ha hL hL'
  ·rcases hget b' k' hb' with ⟨_,rfl⟩ | ⟨rfl,rfl⟩ | ⟨h1',h2',h3'⟩
   ·exact absurd rfl ha
   ·rw [hb2] at hL'
    rw [hb1 b (by omega)] at hL
    exact hH.dis b m k _ L L' h1 h3 hm ho ha hL hL'
   ·rw [hb1 b (by omega)] at hL
    rw [hb1 b' (by omega)] at hL'
    exact hH.dis b b' k k' L L' hne h3 h3' ho ha hL hL'
 ·show b < (lset (⟨.gen [],.dead⟩:Blk) m S.H ++ [(⟨d,.own⟩:Blk)]).length
  rw [lset_eq,List.length_append,List.length_set]
  by_cases e:b = S.H.length
  ·subst e;simp
  ·rw [hb1 b e] at hb
   have:=hH.dom b L hb;omega
 ·rcases hget b k hb with ⟨_,rfl⟩ | ⟨rfl,rfl⟩ | ⟨h1,h2,h3⟩
  ·cases ho
  ·rw [hb2] at hL
   exact hH.apart m _ L hm rfl hL g l hg
  ·rw [hb1 b (by omega)] at hL
   exact hH.apart b k L h3 ho hL g l hg
 ·show S.H.length ≤ (lset (⟨.gen [],.dead⟩:Blk) m S.H ++ [(⟨d,.own⟩:Blk)]).length
  rw [lset_eq,List.length_append,List.length_set];omega
 ·obtain ⟨b,k,L,k1,k2,k3,k4⟩:=ho
  rcases hget b k k1 with ⟨_,rfl⟩ | ⟨rfl,rfl⟩ | ⟨h1,h2,h3⟩
  ·cases k2
  ·rw [hb2] at k3
   exact ⟨m,_,L,hm,rfl,k3,k4⟩
  ·rw [hb1 b (by omega)] at k3
   exact ⟨b,k,L,h3,k2,k3,k4⟩
 ·unfold mvN
  split
  ·rename_i e
   have e:b = m:=by simpa using e
   subst e
   rw [hb2];exact hb
  ·rw [hb1 b (by have:=hH.dom b L hb;omega)];exact hb
structure LoopM (D:Type) where
 T:LoopT D
 m:Nat
 st0:D → Fr × List Blk
def LoopM.told {D:Type} (M:LoopM D):LSpec:=fun F S=>
 match M.T.parse F S.H with
 | none=>none
 | some d=>
  match mergeH S.H (M.st0 d).2 (M.T.fin (iter M.T.next (M.T.rem d) d)).2 with
  | none=>none
  | some R=>some (M.T.out,(M.T.fin (iter M.T.next (M.T.rem d) d)).1,{ H:=R,low:=0,dec:=S.dec,cond:=M.T.good d :: S.cond })
theorem loop_toldM {P:Program} {nv nt:Nat} {D:Type} (M:LoopM D) (N:D → Nat) {b:Code} {f:Fr → St → Option (Out × Fr × St)} (hb:RunOk P G nv nt b f)
 (hin:∀ F H d,M.T.parse F H = some d → wkF none (M.st0 d).1 F = some (M.st0 d).1 ∧ cH (M.st0 d).2 H = some (M.st0 d).2 ∧ N d = H.length ∧
  ∃ u,(M.st0 d).2[M.m]? = some ⟨u,.own⟩ ∧ M.T.st d = (mvF (mvN M.m H.length) (M.st0 d).1,lset ⟨.gen [],.dead⟩ M.m (M.st0 d).2 ++ [⟨u,.own⟩]))
 (hround:∀ d k,M.T.good d = true → M.T.rem d = k + 1 → ∃ dec F' S' rs,f (M.T.st d).1 ⟨(M.T.st d).2,big,dec,[]⟩ = some (.normal,F',S') ∧ S'.ok ∧
  wkF rs (M.T.st (M.T.next d)).1 F' = some (M.T.st (M.T.next d)).1 ∧ wkH (N d) [] rs (M.T.st (M.T.next d)).2 S'.H = some (M.T.st (M.T.next d)).2 ∧ M.T.good (M.T.next d) = true ∧ M.T.rem (M.T.next d) = k ∧ N (M.T.next d) = N d)
 (hend:∀ d,M.T.good d = true → M.T.rem d = 0 → ∃ dec F' S' rs,f (M.T.st d).1 ⟨(M.T.st d).2,big,dec,[]⟩ = some (M.T.out,F',S') ∧ S'.ok ∧ (M.T.out = .normal → False) ∧
  wkF rs (M.T.fin d).1 F' = some (M.T.fin d).1 ∧ wkH (N d) [] rs (M.T.fin d).2 S'.H = some (M.T.fin d).2) :
 LoopOk P G nv nt b M.told:=by
 intro F S o F' S' h
 unfold LoopM.told at h
 split at h
 ·cases h
 rename_i d hd
 split at h
 ·cases h
 rename_i R hR
 simp only [Option.some.injEq,Prod.mk.injEq] at h
 obtain ⟨rfl,rfl,rfl⟩:=h
 obtain ⟨hf1,hh1,hNd,u,hu,hst⟩:=hin F S.H d hd
 have hh1':cH (M.st0 d).2 (S.H ++ []) = some (M.st0 d).2:=by rw [List.append_nil];exact hh1
 obtain ⟨m1,m2,m3,m4⟩:=mergeH_spec hR
 have hstlen:(M.st0 d).2.length = S.H.length:=(cH_get hh1).1
 refine ⟨⟨fun ok x hx=>ok x (List.mem_cons_of_mem _ hx),Nat.zero_le _,by simp only;omega,fun b hb hl=>absurd hl (Nat.not_lt_zero _),fun b k hk hm=>?_,fun b k hk hm=>?_⟩,fun ok β a w hF hH Q hQ=>?_⟩
 ·simp only [lget_eq] at hk ⊢
  have hb:b < S.H.length:=(List.getElem?_eq_some_iff.1 hk).1
  have hbR:b < R.length:=by omega
  rcases m4 b _ (List.getElem?_eq_getElem hbR) with ⟨_,_,g3⟩ | ⟨g1,_⟩
  ·obtain ⟨f0,e1,e2⟩:=g3 hb
   obtain ⟨k1,e3,e4⟩:=(cH_get hh1).2 b f0 e1
   rw [hk] at e3
   injection e3 with e3;subst e3
   rcases e4 with e4 | ⟨e4,_⟩
   ·rw [e2] at e4;cases e4
   ·exact absurd hm e4
  ·rw [hk] at g1;rw [g1,List.getElem?_eq_getElem hbR]
 ·simp only [lget_eq] at hk ⊢
  rcases m4 b k hk with ⟨_,g2,_⟩ | ⟨g1,_⟩
  ·exact absurd hm g2
  ·exact g1
 ·have hgood:M.T.good d = true:=ok _ (List.mem_cons_self ..)
  obtain ⟨i1,i2,i3⟩:=wk_in (gh:=[]) (by intro k hk;cases hk) hH hh1'
  have hF0:FRel nv nt β (M.st0 d).1 a:=by
   refine wkF_rel (β:=β) (β':=β) (rs:=none) (fun p x y v hy hx=>?_) hf1 hF
   unfold wkV at hy
   split at hy
   ·injection hy with hy;subst hy;exact .undef _
   ·exact cV_ok hx hy
  have hdom:∀ b L,β b = some L → b < S.H.length:=hH.dom
  obtain ⟨g1,g2,g3,g4⟩:=mv_h (S:={ H:=(M.st0 d).2,low:=0,dec:=[],cond:=[] }) (m:=M.m) (d:=u) i1 hu
  simp only at g1 g2 g3 g4
  rw [hstlen] at g1 g2 g3 g4
  have e1:(M.T.st d).1 = mvF (mvN M.m S.H.length) (M.st0 d).1:=by rw [hst]
  have e2:(M.T.st d).2 = lset ⟨.gen [],.dead⟩ M.m (M.st0 d).2 ++ [⟨u,.own⟩]:=by rw [hst]
  have hF1:FRel nv nt (mvB β M.m S.H.length) (M.T.st d).1 a:=by
   rw [e1]
   refine ⟨fun t=>?_,hF0.size,hF0.defers⟩
   rw [get_mv]
   exact renV_rel g4 (hF0.val t)
  have hH1:HRel G (mvB β M.m S.H.length) (M.T.st d).2 w:=by rw [e2];exact g2
  have hq0:Stq S.H.length β (M.st0 d).2 w (mvB β M.m S.H.length) (M.T.st d).2 w:=by
   rw [e2];exact g3.q (by omega)
  refine lwp_loop_n (fun n a' w'=>∃ d' β',n = M.T.rem d' ∧ M.T.good d' = true ∧ iter M.T.next (M.T.rem d') d' = iter M.T.next (M.T.rem d) d ∧ N d' = N d ∧ FRel nv nt β' (M.T.st d').1 a' ∧ HRel G β' (M.T.st d').2 w' ∧ Stq S.H.length β (M.st0 d).2 w β' (M.T.st d').2 w')
   (n:=M.T.rem d) ⟨d,_,rfl,hgood,rfl,rfl,hF1,hH1,hq0⟩ ?_
  rintro n a' w' ⟨d',β',rfl,hgd,hit,hln,hF',hH',hS'⟩
  cases hr:M.T.rem d' with
  | zero=>
   obtain ⟨dec,F2,S2,rs,r1,r2,r2',r3,r4⟩:=hend d' hgd hr
   have hn0:N d' = S.H.length:=hln.trans hNd
   rw [hn0] at r4
   obtain ⟨x1,x2⟩:=hb _ _ _ _ _ r1
   refine x2 r2 β' a' w' hF' hH' _ fun a2 w2 β2 q1 q2 q3=>?_
   have hlen2:S.H.length ≤ S2.H.length:=by have h8:=hS'.len;have:=x1.len;simp only at this;omega
   obtain ⟨β3,p1,p2,p3,p4,p5⟩:=wk_ok (n0:=S.H.length) (gh:=[]) (by simp) r4 hlen2 q2
   have hF3:=wkF_rel p5 r3 q1
   have e:M.T.fin (iter M.T.next (M.T.rem d) d) = M.T.fin d':=by rw [← hit,hr];rfl
   rw [e] at hR hQ
   obtain ⟨z1,z2⟩:=merge_ok hH i1 i2 p1 ((hS'.trans q3).wk hdom p2 p3 p4) hR
   have hfin:=hQ a2 w2 β3 hF3 z1 z2
   cases ho:M.T.out with
   | normal=>exact absurd ho r2'
   | exit i=>rw [ho] at hfin;exact hfin
   | ret=>rw [ho] at hfin;exact hfin
  | succ k=>
   obtain ⟨dec,F2,S2,rs,r1,r2,r3,r4,r5,r6,r7⟩:=hround d' k hgd hr
   have hn0:N d' = S.H.length:=hln.trans hNd
   rw [hn0] at r4
   obtain ⟨x1,x2⟩:=hb _ _ _ _ _ r1
   refine x2 r2 β' a' w' hF' hH' _ fun a2 w2 β2 q1 q2 q3=>?_
   have hlen2:S.H.length ≤ S2.H.length:=by have h8:=hS'.len;have:=x1.len;simp only at this;omega
   obtain ⟨β3,p1,p2,p3,p4,p5⟩:=wk_ok (n0:=S.H.length) (gh:=[]) (by simp) r4 hlen2 q2
   have hF3:=wkF_rel p5 r3 q1
   refine ⟨k,Nat.lt_succ_self k,M.T.next d',β3,r6.symm,r5,?_,r7.trans hln,hF3,p1,(hS'.trans q3).wk hdom p2 p3 p4⟩
   rw [← hit,hr,r6];rfl
end
end
section
variable [RowAddr] [Co]
theorem cN_again (p x:N):cN (cN p x) x = cN p x:=by
 cases p <;> cases x <;> rfl
theorem cO_again:∀ (p x:Option N),cO (cO p x) x = cO p x
 | none,_=>rfl
 | some p,some x=>by simp only [cO,cN_again]
 | some p,none=>rfl
mutual
theorem cV_refl:∀ x:AV,cV x x = some x
 | .atom .undef=>rfl
 | .atom (.bool (.c _))=>rfl
 | .atom (.bool (.s _))=>rfl
 | .atom (.str _)=>rfl
 | .atom .nilp=>rfl
 | .atom .nils=>rfl
 | .atom .nili=>rfl
 | .atom .nilf=>rfl
 | .atom (.exact _)=>rfl
 | .num (.int _ (.c _))=>rfl
 | .num (.int _ (.s _))=>rfl
 | .num (.w8 _)=>rfl
 | .num (.w16 _)=>rfl
 | .num (.w32 _)=>rfl
 | .num (.w64 _)=>rfl
 | .ref (.ptr b o)=>by cases o <;> rfl
 | .ref (.gp b o)=>rfl
 | .ref (.gs g o l)=>rfl
 | .ref (.sm b l s)=>by cases l <;> rfl
 | .ref (.sl b o l none)=>by cases o <;> cases l <;> rfl
 | .ref (.sl b o l (some c))=>by cases o <;> cases l <;> cases c <;> rfl
 | .agg xs=>by simp only [cV,cL_refl xs]
 | .obj .tup xs=>by simp only [cV,cL_refl xs]
 | .obj (.ifc _) xs=>by simp only [cV]
 | .obj (.fn _ _) xs=>by simp only [cV]
theorem cL_refl:∀ xs:List AV,cL xs xs = some xs
 | []=>rfl
 | x :: xs=>by simp only [cL,cV_refl x,cL_refl xs]
end
theorem cAtom_again {p:Atom} {x y:AV} (h:cAtom p x = some y):cV y x = some y:=by
 cases p with
 | undef=>
  simp only [cAtom,Option.some.injEq] at h;subst h;rfl
 | bool b=>
  cases b with
  | c _=>
   simp only [cAtom,Option.some.injEq] at h;subst h;exact cV_refl _
  | s _=>
   simp only [cAtom] at h
   split at h
   ·injection h with h;subst h;rfl
   ·cases h
 | _=>simp only [cAtom,Option.some.injEq] at h;subst h;exact cV_refl _
theorem cNum_again {p:Num} {x y:AV} (h:cNum p x = some y):cV y x = some y:=by
 cases p with
 | int _ z=>
  cases z with
  | c _=>
   simp only [cNum,Option.some.injEq] at h;subst h;exact cV_refl _
  | s _=>
   simp only [cNum] at h
   split at h
   ·injection h with h;subst h;rfl
   ·cases h
 | w8 _=>
  simp only [cNum,Option.map_eq_some_iff] at h
  obtain ⟨v,hv,rfl⟩:=h
  simp only [cV,cNum,hv,Option.map_some]
 | w16 _=>
  simp only [cNum,Option.map_eq_some_iff] at h
  obtain ⟨v,hv,rfl⟩:=h
  simp only [cV,cNum,hv,Option.map_some]
 | w32 _=>
  simp only [cNum,Option.map_eq_some_iff] at h
  obtain ⟨v,hv,rfl⟩:=h
  simp only [cV,cNum,hv,Option.map_some]
 | w64 _=>
  simp only [cNum,Option.map_eq_some_iff] at h
  obtain ⟨v,hv,rfl⟩:=h
  simp only [cV,cNum,hv,Option.map_some]
theorem cRef_again {p:Ref} {x y:AV} (h:cRef p x = some y):cV y x = some y:=by
 cases p with
 | ptr b o=>
  simp only [cRef] at h
  split at h
  ·injection h with h;subst h
   simp only [cV,cRef,cN_again]
  ·cases h
 | gp b o=>
  simp only [cRef,Option.some.injEq] at h;subst h;exact cV_refl _
 | gs b o l=>
  simp only [cRef,Option.some.injEq] at h;subst h;exact cV_refl _
 | sm b l s=>
  simp only [cRef] at h
  split at h
  ·injection h with h;subst h
   simp only [cV,cRef,cN_again]
  ·injection h with h;subst h
   simp only [cV,cRef,cN_again]
  ·cases h
 | sl b o l c=>
  simp only [cRef] at h
  split at h
  ·injection h with h;subst h
   simp only [cV,cRef,cN_again,cO_again]
  ·injection h with h;subst h
   simp only [cV,cRef,cN_again]
  ·cases h
mutual
theorem cV_again:∀ (p x y:AV),cV p x = some y → cV y x = some y
 | .atom p,x,y,h=>cAtom_again h
 | .num p,x,y,h=>cNum_again h
 | .ref p,x,y,h=>cRef_again h
 | .agg ps,x,y,h=>by
  simp only [cV] at h
  split at h
  ·rename_i xs
   split at h
   ·rename_i ys hys
    injection h with h;subst h
    simp only [cV,cL_again ps xs ys hys]
   ·cases h
  ·cases h
 | .obj t ps,x,y,h=>by
  cases t with
  | tup=>
   simp only [cV] at h
   split at h
   ·rename_i xs
    split at h
    ·rename_i ys hys
     injection h with h;subst h
     simp only [cV,cL_again ps xs ys hys]
    ·cases h
   ·cases h
  | ifc _=>simp only [cV,Option.some.injEq] at h;subst h;exact cV_refl _
  | fn _ _=>simp only [cV,Option.some.injEq] at h;subst h;exact cV_refl _
theorem cL_again:∀ (ps xs ys:List AV),cL ps xs = some ys → cL ys xs = some ys
 | [],[],ys,h=>by simp only [cL,Option.some.injEq] at h;subst h;rfl
 | [],_ :: _,ys,h=>by simp only [cL,reduceCtorEq] at h
 | p :: ps,[],ys,h=>by simp only [cL,reduceCtorEq] at h
 | p :: ps,x :: xs,ys,h=>by
  simp only [cL] at h
  split at h
  ·cases h
  ·rename_i y hy
   split at h
   ·cases h
   ·rename_i zs hzs
    injection h with h;subst h
    simp only [cL,cV_again p x y hy,cL_again ps xs zs hzs]
end
theorem cD_again {p d d':Data} (h:cD p d = some d'):cD d' d = some d':=by
 cases p with
 | gen ps=>
  simp only [cD] at h
  split at h
  ·simp only [Option.map_eq_some_iff] at h
   obtain ⟨l,hl,rfl⟩:=h
   simp only [cD,cL_again _ _ _ hl,Option.map_some]
  ·cases h
 | b8 _=>
  simp only [cD,Option.map_eq_some_iff] at h
  obtain ⟨l,hl,rfl⟩:=h
  simp only [cD,hl,Option.map_some]
 | b32 _=>
  simp only [cD,Option.map_eq_some_iff] at h
  obtain ⟨l,hl,rfl⟩:=h
  simp only [cD,hl,Option.map_some]
 | b64 _=>
  simp only [cD,Option.map_eq_some_iff] at h
  obtain ⟨l,hl,rfl⟩:=h
  simp only [cD,hl,Option.map_some]
 | spot _ _ _=>cases h
 | kn _ pt=>
  simp only [cD] at h
  split at h
  ·simp only [Option.map_eq_some_iff] at h
   obtain ⟨l,hl,rfl⟩:=h
   simp only [cD,cL_again _ _ _ hl,Option.map_some]
  ·cases h
theorem cB_again {p k k':Blk} (h:cB p k = some k'):cB k' k = some k':=by
 obtain ⟨pd,pm⟩:=p
 obtain ⟨kd,km⟩:=k
 cases pm with
 | dead=>simp only [cB,Option.some.injEq] at h;subst h;rfl
 | ro=>
  simp only [cB] at h
  split at h
  ·cases h
  ·rename_i hm
   split at h
   ·rename_i d hd
    injection h with h;subst h
    simp only [cB,cD_again hd]
   ·cases h
 | own=>
  simp only [cB] at h
  split at h
  ·split at h
   ·rename_i d hd
    injection h with h;subst h
    simp only [cB,cD_again hd]
   ·cases h
  ·cases h
theorem cH_again:∀ (ps ks ks':List Blk),cH ps ks = some ks' → cH ks' ks = some ks' ∧ ks'.length = ks.length
 | [],[],ys,h=>by simp only [cH,Option.some.injEq] at h;subst h;exact ⟨rfl,rfl⟩
 | [],_ :: _,ys,h=>by simp only [cH,reduceCtorEq] at h
 | p :: ps,[],ys,h=>by simp only [cH,reduceCtorEq] at h
 | p :: ps,x :: xs,ys,h=>by
  simp only [cH] at h
  split at h
  ·cases h
  ·rename_i y hy
   split at h
   ·cases h
   ·rename_i zs hzs
    injection h with h;subst h
    obtain ⟨h1,h2⟩:=cH_again ps xs zs hzs
    exact ⟨by simp only [cH,cB_again hy,h1],by simp only [List.length_cons,h2]⟩
theorem wkV_of {y x:AV} (h:cV y x = some y):wkV none y x = some y:=by
 unfold wkV
 split
 ·rfl
 ·exact h
theorem wkV_again {p x y:AV} (h:wkV none p x = some y):wkV none y x = some y:=by
 unfold wkV at h
 split at h
 ·injection h with h;subst h;rfl
 ·exact wkV_of (cV_again _ _ _ h)
theorem wkL_again:∀ (ps xs ys:List AV),wkL none ps xs = some ys → wkL none ys xs = some ys
 | [],[],ys,h=>by simp only [wkL,Option.some.injEq] at h;subst h;rfl
 | [],_ :: _,ys,h=>by simp only [wkL,reduceCtorEq] at h
 | p :: ps,[],ys,h=>by simp only [wkL,reduceCtorEq] at h
 | p :: ps,x :: xs,ys,h=>by
  simp only [wkL] at h
  split at h
  ·cases h
  ·rename_i y hy
   split at h
   ·cases h
   ·rename_i zs hzs
    injection h with h;subst h
    simp only [wkL,wkV_again hy,wkL_again ps xs zs hzs]
theorem wkT_again (ts:List (Nat × AV)):∀ (ps ys:List (Nat × AV)),wkT none ts ps = some ys → wkT none ts ys = some ys
 | [],ys,h=>by simp only [wkT,Option.some.injEq] at h;subst h;rfl
 | (t,p) :: ps,ys,h=>by
  simp only [wkT] at h
  split at h
  ·cases h
  ·rename_i y hy
   split at h
   ·cases h
   ·rename_i zs hzs
    injection h with h;subst h
    simp only [wkT,wkV_again hy,wkT_again ts ps zs hzs]
theorem wkF_again {p F F':Fr} (h:wkF none p F = some F'):wkF none F' F = some F':=by
 unfold wkF at h
 split at h
 ·cases h
 ·rename_i vs hvs
  split at h
  ·cases h
  ·rename_i ts hts
   injection h with h;subst h
   simp only [wkF,wkL_again _ _ _ hvs,wkT_again _ _ _ hts]
def sw8 (v:AV):Option (BitVec 8):=
 match v with
 | .num (.w8 x)=>some x
 | _=>none
def c8v (v:Vec 8) (n:Nat):List AV:=(List.range n).map fun i=>.num (.w8 (v.l.getD i 0#8))
def rd8 (n:Nat) (xs:List AV):Option (Vec 8):=
 match mapOpt sw8 xs with
 | some l=>
  match Nat.beq l.length n with
  | true=>some (Vec.of l)
  | false=>none
 | none=>none
theorem sw8_eq:∀ {xs:List AV} {l:List (BitVec 8)},mapOpt sw8 xs = some l → xs = l.map fun x=>.num (.w8 x)
 | [],l,h=>by simp [mapOpt] at h;subst h;rfl
 | x :: xs,l,h=>by
  simp only [mapOpt] at h
  split at h
  ·cases h
  ·rename_i y hy
   split at h
   ·cases h
   ·rename_i ys hys
    injection h with h;subst h
    rw [sw8_eq hys]
    unfold sw8 at hy
    split at hy
    ·injection hy with hy;subst hy;rfl
    ·cases hy
theorem rd8_eq {n:Nat} {xs:List AV} {v:Vec 8} (h:rd8 n xs = some v):xs = c8v v n ∧ v.n = n:=by
 unfold rd8 at h
 split at h
 ·rename_i l hl
  split at h
  ·rename_i hn
   injection h with h;subst h
   have hn:l.length = n:=by simpa using hn
   refine ⟨?_,hn⟩
   rw [sw8_eq hl]
   subst hn
   unfold c8v
   refine List.ext_getElem? fun i=>?_
   rw [List.getElem?_map,List.getElem?_map]
   rcases Nat.lt_or_ge i l.length with hi | hi
   ·simp [hi,Vec.of]
   ·simp [hi]
  ·cases h
 ·cases h
def sw64 (v:AV):Option (BitVec 64):=
 match v with
 | .num (.w64 x)=>some x
 | _=>none
def c64v (v:Vec 64) (n:Nat):List AV:=(List.range n).map fun i=>.num (.w64 (v.l.getD i 0#64))
def rd64 (n:Nat) (xs:List AV):Option (Vec 64):=
 match mapOpt sw64 xs with
 | some l=>
  match Nat.beq l.length n with
  | true=>some (Vec.of l)
  | false=>none
 | none=>none
theorem sw64_eq:∀ {xs:List AV} {l:List (BitVec 64)},mapOpt sw64 xs = some l → xs = l.map fun x=>.num (.w64 x)
 | [],l,h=>by simp [mapOpt] at h;subst h;rfl
 | x :: xs,l,h=>by
  simp only [mapOpt] at h
  split at h
  ·cases h
  ·rename_i y hy
   split at h
   ·cases h
   ·rename_i ys hys
    injection h with h;subst h
    rw [sw64_eq hys]
    unfold sw64 at hy
    split at hy
    ·injection hy with hy;subst hy;rfl
    ·cases hy
theorem rd64_eq {n:Nat} {xs:List AV} {v:Vec 64} (h:rd64 n xs = some v):xs = c64v v n ∧ v.n = n:=by
 unfold rd64 at h
 split at h
 ·rename_i l hl
  split at h
  ·rename_i hn
   injection h with h;subst h
   have hn:l.length = n:=by simpa using hn
   refine ⟨?_,hn⟩
   rw [sw64_eq hl]
   subst hn
   unfold c64v
   refine List.ext_getElem? fun i=>?_
   rw [List.getElem?_map,List.getElem?_map]
   rcases Nat.lt_or_ge i l.length with hi | hi
   ·simp [hi,Vec.of]
   ·simp [hi]
  ·cases h
 ·cases h
def mkC:List Int → List AV
 | []=>[]
 | n :: r=>.num (.int .i64 (.c n)) :: mkC r
def eqC:List AV → List Int → Bool
 | [],l=>
  match l with
  | []=>true
  | _=>false
 | x :: xs,l=>
  match l with
  | []=>false
  | n :: r=>
   match x with
   | .num (.int .i64 (.c m))=>
    match intEq m n with
    | true=>eqC xs r
    | false=>false
   | _=>false
theorem eqC_eq:∀ {xs:List AV} {l:List Int},eqC xs l = true → xs = mkC l
 | [],[],_=>rfl
 | [],_ :: _,h=>by simp [eqC] at h
 | _ :: _,[],h=>by simp [eqC] at h
 | x :: xs,n :: r,h=>by
  simp only [eqC] at h
  split at h
  ·split at h
   ·rename_i m hm
    have e:=hm
    rw [intEq_eq] at e
    rw [eq_of_beq e,eqC_eq h];rfl
   ·cases h
  ·cases h
structure Ct (D:Type) where
 pat:List AV
 patH:List Blk
 read:List AV → List Blk → Option D
 args:D → List AV
 heap:D → List Blk
 out:D → List Blk
 val:D → AV
 good:D → Bool
def Ct.spec {D:Type} (c:Ct D):Spec:=fun args H dec=>
 match wkL none c.pat args with
 | none=>none
 | some a=>
  match cH c.patH H with
  | none=>none
  | some K=>
   match c.read a K with
   | none=>none
   | some d=>
    match mergeH H (c.heap d) (c.out d) with
    | none=>none
    | some R=>some ⟨c.val d,R,dec,[c.good d]⟩
theorem Ct.ok {D:Type} (c:Ct D) {P:Program} {G:Nat → Option (List AV)} {f:FuncId} {call:CallF} (hc:CallOk P G call)
 (hread:∀ a K d,c.read a K = some d → a = c.args d ∧ K = c.heap d)
 (hrun:∀ d,c.good d = true → ∃ dec rs cs,endsAs (c.heap d).length rs (c.out d) (c.val d) (call f (c.args d) ⟨c.heap d,big,dec,[]⟩) = some (c.out d,c.val d,cs) ∧ ∀ x ∈ cs,x = true) :
 SpecOk P G f c.spec:=by
 refine SpecOk.ends hc (fun args H dec r hr hcond=>?_) (fun args H dec r hr i k hk hm=>?_)
 ·unfold Ct.spec at hr
  split at hr
  ·cases hr
  rename_i a ha
  split at hr
  ·cases hr
  rename_i K hK
  split at hr
  ·cases hr
  rename_i d hd
  split at hr
  ·cases hr
  rename_i R hR
  injection hr with hr;subst hr
  obtain ⟨rfl,rfl⟩:=hread a K d hd
  obtain ⟨dec',rs,cs,h1,h2⟩:=hrun d (hcond _ (List.mem_singleton.2 rfl))
  refine ⟨c.pat,c.patH,c.args d,c.heap d,dec',rs,c.out d,cs,ha,hK,?_,h2,hR⟩
  rw [← (cH_again _ _ _ hK).2]
  exact h1
 ·unfold Ct.spec at hr
  split at hr
  ·cases hr
  split at hr
  ·cases hr
  split at hr
  ·cases hr
  rename_i d hd
  split at hr
  ·cases hr
  rename_i R hR
  injection hr with hr;subst hr
  rcases (mergeH_spec hR).2.2.2 i k hk with ⟨_,h2,_⟩ | ⟨h1,_⟩
  ·exact absurd hm h2
  ·exact ⟨k,h1,hm⟩
structure LoopP (D:Type) where
 pat:Fr
 patH:List Blk
 read:Fr → List Blk → Option D
 gh:List Blk
 st:D → Fr × List Blk
 next:D → D
 rem:D → Nat
 good:D → Bool
 out:Out
 fin:D → Fr × List Blk
def LoopP.T {D:Type} (L:LoopP D):LoopT D where
 parse F H:=
  match wkF none L.pat F with
  | none=>none
  | some F'=>
   match cH L.patH (H ++ L.gh) with
   | none=>none
   | some H'=>L.read F' H'
 gh:=L.gh
 st:=L.st
 next:=L.next
 rem:=L.rem
 good:=L.good
 out:=L.out
 fin:=L.fin
theorem LoopP.ran {D:Type} (L:LoopP D) {P:Program} {G:Nat → Option (List AV)} {nv nt:Nat} {b:Code} {f:Fr → St → Option (Out × Fr × St)} (hb:RunOk P G nv nt b f)
 (hg:∀ k ∈ L.gh,k.data.len = 0) (hout:L.out = .normal → False)
 (hread:∀ F H d,L.read F H = some d → (F,H) = L.st d)
 (hround:∀ d k,L.good d = true → L.rem d = k + 1 → (∃ dec rs cs,ranAs ((L.st d).2.length - L.gh.length) rs (L.st (L.next d)) (f (L.st d).1 ⟨(L.st d).2,big,dec,[]⟩) = some (.normal,L.st (L.next d),cs) ∧ (∀ x ∈ cs,x = true)) ∧
  L.good (L.next d) = true ∧ L.rem (L.next d) = k ∧ (L.st (L.next d)).2.length = (L.st d).2.length)
 (hend:∀ d,L.good d = true → L.rem d = 0 → ∃ dec rs cs,ranAs ((L.st d).2.length - L.gh.length) rs (L.fin d) (f (L.st d).1 ⟨(L.st d).2,big,dec,[]⟩) = some (L.out,L.fin d,cs) ∧ (∀ x ∈ cs,x = true)) :
 LoopOk P G nv nt b L.T.told:=by
 refine loop_ranL L.T hb hg hout (fun F H d h=>?_) hround hend
 have h:(match wkF none L.pat F with
  | none=>none
  | some F'=>
   match cH L.patH (H ++ L.gh) with
   | none=>none
   | some H'=>L.read F' H') = some d:=h
 split at h
 ·cases h
 rename_i F' hF
 split at h
 ·cases h
 rename_i H' hH
 have e:=hread F' H' d h
 show wkF none (L.st d).1 F = some (L.st d).1 ∧ cH (L.st d).2 (H ++ L.gh) = some (L.st d).2
 rw [← e]
 exact ⟨wkF_again hF,(cH_again _ _ _ hH).1⟩
def LoopP.M {D:Type} (L:LoopP D) (m:Nat) (st0:D → Fr × List Blk):LoopM D:=⟨L.T,m,st0⟩
theorem LoopP.ranM {D:Type} (L:LoopP D) (m n:Nat) (st0:D → Fr × List Blk) {P:Program} {G:Nat → Option (List AV)} {nv nt:Nat} {b:Code} {f:Fr → St → Option (Out × Fr × St)} (hb:RunOk P G nv nt b f)
 (hgh:L.gh = []) (hout:L.out = .normal → False)
 (hread:∀ F H d,L.read F H = some d → (F,H) = st0 d)
 (hst:∀ d,(st0 d).2.length = n ∧ ∃ u,(st0 d).2[m]? = some ⟨u,.own⟩ ∧ L.st d = (mvF (mvN m n) (st0 d).1,lset ⟨.gen [],.dead⟩ m (st0 d).2 ++ [⟨u,.own⟩]))
 (hround:∀ d k,L.good d = true → L.rem d = k + 1 → (∃ dec rs cs,ranAs n rs (L.st (L.next d)) (f (L.st d).1 ⟨(L.st d).2,big,dec,[]⟩) = some (.normal,L.st (L.next d),cs) ∧ (∀ x ∈ cs,x = true)) ∧
  L.good (L.next d) = true ∧ L.rem (L.next d) = k)
 (hend:∀ d,L.good d = true → L.rem d = 0 → ∃ dec rs cs,ranAs n rs (L.fin d) (f (L.st d).1 ⟨(L.st d).2,big,dec,[]⟩) = some (L.out,L.fin d,cs) ∧ (∀ x ∈ cs,x = true)) :
 LoopOk P G nv nt b (L.M m st0).told:=by
 refine loop_toldM (L.M m st0) (fun _=>n) hb (fun F H d h=>?_) (fun d k h1 h2=>?_) (fun d h1 h2=>?_)
 ·have h:(match wkF none L.pat F with
   | none=>none
   | some F'=>
    match cH L.patH (H ++ L.gh) with
    | none=>none
    | some H'=>L.read F' H') = some d:=h
  rw [hgh,List.append_nil] at h
  split at h
  ·cases h
  rename_i F' hF
  split at h
  ·cases h
  rename_i H' hH
  have e:=hread F' H' d h
  obtain ⟨g1,u,g2,g3⟩:=hst d
  have el:H.length = n:=by
   rw [← (cH_again _ _ _ hH).2,show H' = (st0 d).2 by rw [← e]];exact g1
  show wkF none (st0 d).1 F = some (st0 d).1 ∧ cH (st0 d).2 H = some (st0 d).2 ∧ n = H.length ∧ _
  refine ⟨?_,?_,el.symm,u,g2,?_⟩
  ·rw [← e];exact wkF_again hF
  ·rw [← e];exact (cH_again _ _ _ hH).1
  ·rw [el];exact g3
 ·obtain ⟨⟨dec,rs,cs,g1,g2⟩,g3,g4⟩:=hround d k h1 h2
  obtain ⟨F',S',e1,e2,e3,e4⟩:=ranAs_inv g1
  exact ⟨dec,F',S',rs,e1,fun x hx=>g2 x (by rw [← e4];exact hx),e2,e3,g3,g4,rfl⟩
 ·obtain ⟨dec,rs,cs,g1,g2⟩:=hend d h1 h2
  obtain ⟨F',S',e1,e2,e3,e4⟩:=ranAs_inv g1
  exact ⟨dec,F',S',rs,e1,fun x hx=>g2 x (by rw [← e4];exact hx),hout,e2,e3⟩
end
section
variable [RowAddr] [Co]
open Go.ChangeShapes Go.WideShapes Go.RowKit
def Still (W W':World):Prop:=W'.os = W.os ∧ W'.output = W.output ∧ W.heap.size ≤ W'.heap.size ∧ ∀ c,c < W.heap.size → W'.heap[c]? = W.heap[c]?
theorem Still.kept {W W':World} (h:Still W W') (may:MemPlace → Prop):W.keptBut W' may:=by
 refine ⟨h.1,h.2.1,fun i hi=>?_⟩
 have:=(World.keptBut_refl W may).2.2 i hi
 rw [h.2.2.2 i hi]
 exact this
theorem Still.cell {W W':World} (h:Still W W') {a:Addr} (ha:a.block < W.heap.size):W'.cell? a = W.cell? a:=by
 unfold World.cell?
 rw [h.2.2.2 _ ha]
theorem Still.frozen {W W':World} (h:Still W W') {a:Addr} (ha:a.block < W.heap.size):W'.frozen? a = W.frozen? a:=by
 unfold World.frozen?
 rw [h.2.2.2 _ ha]
theorem Still.same {W W':World} (h:Still W W') {p:MemPlace} (hp:p.block < W.heap.size):W.sameAt W' p:=by
 cases p with
 | cell b o=>exact h.cell (a:=⟨b,o,none⟩) hp
 | map b=>exact h.2.2.2 b hp
section
variable {H:Type} {enc:TypeId × Value → H} {P:Program}
theorem trodAll_stays {W W':World} (hl:laidOutB P = true) {sp':Nat → Bool}:∀ {ts:List TypeId} {vs:List Value} {ds:List (DataW H)} {ps:List MemPlace},(∀ t ∈ ts,P.readableRec t = true ∧ t < P.types.size) →
 DataW.TrodAll enc P W 0 (fun _=>true) true ts vs ds ps → (∀ p ∈ ps,W.sameAt W' p) → (∀ p ∈ ps,sp' p.block = true) → DataW.TrodAll enc P W' 0 sp' true ts vs ds ps
 | [],[],[],_,_,h,_,_=>h
 | t :: ts,v :: vs,d :: ds,ps,ht,⟨p,q,h1,h2,e⟩,hs,hsp=>by
  have hm:∀ x,x ∈ p → x ∈ ps:=fun x hx=>by rw [e];exact List.mem_append_left _ hx
  have hm':∀ x,x ∈ q → x ∈ ps:=fun x hx=>by rw [e];exact List.mem_append_right _ hx
  exact ⟨p,q,WideElems.Trod_stays hl (ht t (List.mem_cons_self ..)).1 (ht t (List.mem_cons_self ..)).2 h1 (fun x hx=>hs x (hm x hx)) (fun x hx=>hsp x (hm x hx)),
   trodAll_stays hl (fun t' h'=>ht t' (List.mem_cons_of_mem _ h')) h2 (fun x hx=>hs x (hm' x hx)) (fun x hx=>hsp x (hm' x hx)),e⟩
theorem post_of_still {f:Func} {s:ChangeSpec} {apart fresh handsOn again:Bool} {W W':World} {args:Array Value} {ds gs:List (DataW H)} {before:List MemPlace} {tb:TypeId}
 (hW:DataW.Whole enc P f.params.toList s.vars apart W args.toList ds gs before) (hvars:s.vars = []) (hspec:s.fn H ds = { results:=[.lit (.bool true)],args:=ds })
 (hl:laidOutB P = true) (hr:∀ t ∈ f.params.toList,P.readableRec t = true ∧ t < P.types.size) (hres:f.resultTypes = #[tb]) (htb:P.underlying tb = some .bool) (hs:Still W W') :
 s.post enc P f apart fresh handsOn again W args (.bool true) W':=by
 have hlt:=hW.lt
 obtain ⟨p,q,hA,hV,e,hz,hn⟩:=id hW
 rw [hvars] at hV
 obtain ⟨rfl,rfl⟩:=trodVars_none hV
 simp only [List.append_nil] at e
 subst e
 have hA':∀ sp':Nat → Bool,(∀ x ∈ before,sp' x.block = true) → DataW.TrodAll enc P W' 0 sp' true f.params.toList args.toList ds before:=fun sp' h'=>
  trodAll_stays hl hr hA (fun x hx=>hs.same (hlt x hx)) h'
 have hR:∀ (b:Nat) (sp:Nat → Bool) (hd:Bool),DataW.TrodAll enc P W' b sp hd f.resultTypes.toList ((Value.bool true).resultList f.resultTypes.size) (s.fn H (ds ++ [])).results []:=by
  intro b sp hd
  rw [hres,List.append_nil,hspec]
  exact trodAll_cons_mk (shut_bool htb _) trodAll_mk0
 have hargs:(s.fn H (ds ++ [])).args = ds:=by rw [List.append_nil,hspec]
 have hvs:(s.fn H (ds ++ [])).vars = []:=by rw [List.append_nil,hspec]
 have hTV:∀ sp:Nat → Bool,DataW.TrodVars enc P W' sp s.vars (s.fn H (ds ++ [])).vars []:=by
  intro sp;rw [hvs,hvars];rfl
 have hB:∀ sp':Nat → Bool,(∀ x ∈ before,sp' x.block = true) → DataW.TrodAll enc P W' 0 sp' true f.params.toList args.toList (s.fn H (ds ++ [])).args before:=fun sp' h'=>by rw [hargs];exact hA' sp' h'
 have hold:∀ x ∈ before,(fun b=>decide (b < W.heap.size)) x.block = true:=fun x hx=>by simpa using hlt x hx
 refine ⟨ds,[],before,[],before,[],hW,hR _ _ _,hB _ hold,hTV _,World.keptBut_mono (fun x hx=>⟨hx,by simpa using hx⟩) (hs.kept (· ∈ before)),fun _=>?_⟩
 refine ⟨ok_one hres rfl (okWide_bool_mk htb _),_,_,([] ++ before) ++ [],⟨[] ++ before,[],trodAll_append (hB _ (fun _ _=>rfl)) (hR _ _ _),hTV _,rfl,?_,?_⟩,?_⟩
 ·intro b off hp
  have hp':MemPlace.cell b off ∈ before:=by simpa using hp
  have:=hs.frozen (a:=⟨b,off,none⟩) (hlt _ hp')
  rw [this]
  exact hz b off hp'
 ·intro ha;simpa using hn ha
 ·intro x hx _;simpa using hx
end
def SlOk (W:World) (v:Value) (d:Data):Prop:=
 ∃ a cp,v = .slice a d.len cp ∧ d.len ≤ cp ∧ (cp = 0 ∨ ∃ L:Loc,a = some (at' L.c L.base) ∧ cp ≤ L.room ∧ ROk (fun _=>none) d L W)
abbrev AllMine (W:World):Prop:=∀ c,c < W.heap.size → Co.mine c
section
variable {H:Type} {enc:TypeId × Value → H} {P:Program} {W:World} {base:Nat}
theorem at_map {α:Type} {f:α → AV} {l:List α} {i:Nat} {x:AV} (h:(l[i]?).map f = some x):∃ y,l[i]? = some y ∧ x = f y:=by
 rw [Option.map_eq_some_iff] at h
 obtain ⟨y,h1,h2⟩:=h
 exact ⟨y,h1,h2.symm⟩
theorem getD_of {zs:List Int} {i:Nat} {z:Int} (h:zs[i]? = some z):zs.getD i 0 = z:=by simp [List.getD,h]
theorem val8 {z:Int} (h:(Lit.int .u8 z).wf = true):(Num.w8 (BitVec.ofInt 8 z)).val = .int .u8 z:=by
 have:=bounds_u8 h
 show Value.int .u8 ((BitVec.ofInt 8 z).toNat:Int) = _
 congr 1
 rw [BitVec.toNat_ofInt];omega
theorem open_arr {t e:TypeId} {k:IntKind} {n:Nat} {r:Reach} {v:Value} {dd:DataW H} {ps:List MemPlace} (ht:P.underlying t = some (.array n e)) (he:P.underlying e = some (.int k)) (hc:P.cellsOf e = 1) (hct:P.cellsOf t = n)
 (hval:Value.okWide P W r base t v) (h:DataW.Trod enc P W 0 (fun _=>true) true t v dd ps) :
 ∃ z:Nat → Int,v = .agg ⟨(List.range n).map fun i=>.int k (z i)⟩ ∧ ∀ i,i < n → (Lit.int k (z i)).wf = true:=by
 have hv:∃ cs:Array Value,v = .agg cs:=by
  simp only [Value.okWide,ht] at hval
  obtain ⟨cs,h1,_⟩:=hval
  exact ⟨cs,h1⟩
 obtain ⟨cs,rfl⟩:=hv
 obtain ⟨fuel,hf⟩:=h
 obtain ⟨xs,m,_,_,hl,hxl,hel⟩:=DataW.trod_array ht hf
 have hcell:∀ i,i < n → ∃ z,cs.toList[i]? = some (.int k z) ∧ (Lit.int k z).wf = true:=by
  intro i hi
  have hE:=hel i hi
  rw [hc,Nat.mul_one,List.getElem?_eq_getElem (by omega)] at hE
  obtain ⟨z,e1,_,e3⟩:=DataW.trod_int he hE
  refine ⟨z,?_,e3⟩
  have e0:((cs.toList.drop i).take 1)[0]? = some (.int k z):=by
   have:(Value.agg cs).cells.toList = cs.toList:=rfl
   rw [this] at e1;rw [e1];rfl
  simpa using e0
 have hlen:cs.toList.length = n:=by
  have e1:(Value.agg cs).cells.toList = cs.toList:=rfl
  rw [e1] at hl
  rw [hl,hct]
 refine ⟨fun i=>match cs.toList[i]? with | some (.int _ z)=>z | _=>0,?_,fun i hi=>?_⟩
 ·congr 1
  apply Array.ext'
  apply List.ext_getElem?
  intro i
  rcases Nat.lt_or_ge i n with hi | hi
  ·obtain ⟨z,hz,_⟩:=hcell i hi
   rw [hz,List.getElem?_map,List.getElem?_range hi]
   simp only [Option.map_some,hz]
  ·rw [List.getElem?_eq_none (by omega),List.getElem?_eq_none (by simpa using hi)]
 ·obtain ⟨z,hz,hw⟩:=hcell i hi
  simp only [hz];exact hw
end
end
section
variable [RowAddr] [Co]
open Go.ChangeShapes Go.WideShapes Go.RowKit
def Good (W:World) (p:Value × Data) (o:Option Loc):Prop:=
 ∃ a cp,p.1 = .slice a p.2.len cp ∧ p.2.len ≤ cp ∧ ((cp = 0 ∧ o = none) ∨ ∃ L:Loc,o = some L ∧ a = some (at' L.c L.base) ∧ cp ≤ L.room ∧ ROk (fun _=>none) p.2 L W)
theorem SlOk.good {W:World} {v:Value} {d:Data} (h:SlOk W v d):∃ o,Good W (v,d) o:=by
 obtain ⟨a,cp,h1,h2,h3 | ⟨L,h3,h4,h5⟩⟩:=h
 ·exact ⟨none,a,cp,h1,h2,.inl ⟨h3,rfl⟩⟩
 ·exact ⟨some L,a,cp,h1,h2,.inr ⟨L,rfl,h3,h4,h5⟩⟩
theorem none_le (β:Map):Map.le (fun _=>none) β:=fun _ _ h=>by cases h
theorem ROk.up {β:Map} {d:Data} {L:Loc} {w:World} (h:ROk (fun _=>none) d L w):ROk β d L w:=
 ⟨h.1,h.2.1,fun i x hx=>by obtain ⟨v,h1,h2,h3⟩:=h.2.2 i x hx;exact ⟨v,h1,h2.mono (none_le β),h3⟩⟩
theorem ro_heapG {G:Nat → Option (List AV)} {W:World} (hG:∀ g l,G g = some l → gIx g < W.heap.size ∧ ∀ (i:Nat) x,l[i]? = some x → ∃ v,W.cell? (gAt g i) = some v ∧ VRel (fun _=>none) x v ∧ May (gAt g i) false) (ss:List (Value × Data)) (h:∀ p ∈ ss,SlOk W p.1 p.2) :
 ∃ β:Map,HRel G β (ss.map fun p=>⟨p.2,.ro⟩) W ∧ ∀ (i:Nat) v d,ss[i]? = some (v,d) → VRel β (.sl i (.c 0) (.s d.len) none) v:=by
 have hex:∀ i:Nat,∃ o:Option Loc,(∀ p,ss[i]? = some p → Good W p o) ∧ (ss[i]? = none → o = none):=by
  intro i
  cases hs:ss[i]? with
  | none=>exact ⟨none,fun p hp=>(by cases hp),fun _=>rfl⟩
  | some p=>
   obtain ⟨o,ho⟩:=(h p (List.mem_of_getElem? hs)).good
   exact ⟨o,fun q hq=>(by injection hq with hq;subst hq;exact ho),fun hn=>(by cases hn)⟩
 refine ⟨fun i=>Classical.choose (hex i),?_,?_⟩
 ·have key:∀ i,(∀ p,ss[i]? = some p → Good W p (Classical.choose (hex i))) ∧ (ss[i]? = none → Classical.choose (hex i) = none):=fun i=>Classical.choose_spec (hex i)
  generalize hβ:(fun i=>Classical.choose (hex i)) = β
  have key:∀ i,(∀ p,ss[i]? = some p → Good W p (β i)) ∧ (ss[i]? = none → β i = none):=by rw [← hβ];exact key
  have hget:∀ (b:Nat) k,(ss.map fun p=>(⟨p.2,.ro⟩:Blk))[b]? = some k → ∃ p,ss[b]? = some p ∧ k = ⟨p.2,.ro⟩:=by
   intro b k hk
   rw [List.getElem?_map,Option.map_eq_some_iff] at hk
   obtain ⟨p,h1,h2⟩:=hk
   exact ⟨p,h1,h2.symm⟩
  refine ⟨fun b k hk _=>?_,fun b b' k k' L L' _ hk _ ho=>?_,fun b L hL=>?_,hG,fun b k L hk ho=>?_⟩
  ·obtain ⟨p,h1,rfl⟩:=hget b k hk
   obtain ⟨a,cp,_,g2,⟨g3,g4⟩ | ⟨L,g3,g4,g5,g6⟩⟩:=(key b).1 p h1
   ·exact .inr ⟨by simp only;omega,g4⟩
   ·exact .inl ⟨L,g3,g6.up⟩
  ·obtain ⟨p,_,rfl⟩:=hget b k hk
   cases ho
  ·rcases Nat.lt_or_ge b ss.length with hb | hb
   ·simpa using hb
   ·rw [(key b).2 (List.getElem?_eq_none hb)] at hL;cases hL
  ·obtain ⟨p,_,rfl⟩:=hget b k hk
   cases ho
 ·intro i v d hi
  obtain ⟨a,cp,g1,g2,g3⟩:=(Classical.choose_spec (hex i)).1 (v,d) hi
  simp only at g1 g2
  rw [g1]
  refine .sl i (.c 0) (.s d.len) none a cp g2 (fun C hC=>(by cases hC)) ?_
  rcases g3 with ⟨g3,_⟩ | ⟨L,g3,g4,g5,_⟩
  ·exact .inl g3
  ·exact .inr ⟨L,g3,by rw [g4];rfl,by show 0 + cp ≤ L.room;omega⟩
def verdict (r:Option (AV × St)):Option (Bool × List Bool):=
 match r with
 | some (.atom (.bool b),S)=>some (b.v,S.cond)
 | _=>none
theorem verdict_inv {r:Option (AV × St)} {b:Bool} {cs:List Bool} (h:verdict r = some (b,cs)):∃ (x:B) (S:St),r = some (.atom (.bool x),S) ∧ x.v = b ∧ S.cond = cs:=by
 unfold verdict at h
 split at h
 ·rename_i x S
  simp only [Option.some.injEq,Prod.mk.injEq] at h
  exact ⟨x,S,rfl,h.1,h.2⟩
 ·cases h
theorem run_law {P:Program} {G:Nat → Option (List AV)} {call:CallF} (hcall:CallOk P G call) {f:FuncId} {args:List AV} {vs:List Value} {β:Map} {H:List Blk} {W:World} {dec cs:List Bool} {b:Bool}
 (hrun:verdict (call f args ⟨H,big,dec,[]⟩) = some (b,cs)) (hb:b = true) (hcs:∀ x ∈ cs,x = true) (hargs:LRel β args vs) (hH:HRel G β H W) (hro:∀ (b:Nat) k,H[b]? = some k → k.mode ≠ .own) (hmi:AllMine W) :
 CallsJ P f ⟨vs⟩ W fun e W'=>e = .returned (.bool true) ∧ Still W W':=by
 obtain ⟨x,S,h1,h2,h3⟩:=verdict_inv hrun
 obtain ⟨_,g⟩:=hcall _ _ _ _ _ h1
 obtain ⟨_,hc⟩:=g (fun y hy=>hcs y (by rw [← h3];exact hy)) β W vs hargs hH
 refine hc.mono ?_
 rintro e w' ⟨u,β',rfl,q1,_,q3⟩
 refine ⟨by rw [q1.bool_inv,h2,hb],q3.os,q3.output,q3.size,fun c hc=>(q3.kept c hc ?_).1 (hmi c hc)⟩
 rintro ⟨b',k,L,hk,ho,_⟩
 exact hro b' k hk ho
theorem rel_int {β:Map} (k:IntKind) (n:Int):VRel β (.int k (.s n)) (.int k n):=.num (.int k (.s n))
theorem rel_arr {β:Map} {n:Nat} {x:Nat → AV} {v:Nat → Value} (h:∀ i,i < n → VRel β (x i) (v i)):VRel β (.agg ((List.range n).map x)) (.agg ⟨(List.range n).map v⟩):=by
 refine .agg _ _ (by simp) fun i a b ha hb=>?_
 rw [List.getElem?_map,Option.map_eq_some_iff] at ha hb
 obtain ⟨j,h1,rfl⟩:=ha
 obtain ⟨j',h2,rfl⟩:=hb
 rw [h1] at h2;injection h2 with h2;subst h2
 have:=List.getElem?_eq_some_iff.1 h1
 obtain ⟨hi,hj⟩:=this
 simp at hi hj
 exact h j (by omega)
theorem law_runG {P:Program} {G:Nat → Option (List AV)} {call:CallF} (hcall:CallOk P G call) {f:FuncId} {args:List AV} {vs:List Value} (ss:List (Value × Data)) {W:World} (hG:∀ g l,G g = some l → gIx g < W.heap.size ∧ ∀ (i:Nat) x,l[i]? = some x → ∃ v,W.cell? (gAt g i) = some v ∧ VRel (fun _=>none) x v ∧ May (gAt g i) false) {dec cs:List Bool} (hmi:AllMine W) (hss:∀ p ∈ ss,SlOk W p.1 p.2)
 (hrun:verdict (call f args ⟨ss.map fun p=>⟨p.2,.ro⟩,big,dec,[]⟩) = some (true,cs)) (hcs:∀ x ∈ cs,x = true)
 (hargs:∀ β,(∀ (i:Nat) v d,ss[i]? = some (v,d) → VRel β (.sl i (.c 0) (.s d.len) none) v) → LRel β args vs) :
 CallsJ P f ⟨vs⟩ W fun e W'=>e = .returned (.bool true) ∧ Still W W':=by
 obtain ⟨β,hH,hv⟩:=ro_heapG (W:=W) hG ss hss
 refine run_law hcall hrun rfl hcs (hargs β hv) hH (fun b k hk=>?_) hmi
 rw [List.getElem?_map,Option.map_eq_some_iff] at hk
 obtain ⟨p,_,rfl⟩:=hk
 intro h;cases h
theorem ss_nil {W:World}:∀ p ∈ ([]:List (Value × Data)),SlOk W p.1 p.2:=fun p hp=>by cases hp
theorem ss_cons {W:World} {v:Value} {d:Data} {ss:List (Value × Data)} (h:SlOk W v d) (k:∀ p ∈ ss,SlOk W p.1 p.2):∀ p ∈ (v,d) :: ss,SlOk W p.1 p.2:=by
 intro p hp
 rcases List.mem_cons.1 hp with rfl | hp
 ·exact h
 ·exact k p hp
end
end Go.Eng
namespace Go.Proofs.YtineimjmnbjdlaaDoor
section
open Go.Eng
variable [RowAddr]
set_option maxRecDepth 10000 in
def tabP:List AV:=[.int .u8 (.c 0),.int .u8 (.c 2),.int .u8 (.c 4),.int .u8 (.c 6),.int .u8 (.c 1),.int .u8 (.c 3),.int .u8 (.c 5),.int .u8 (.c 7),.int .u8 (.c 8),.int .u8 (.c 10),.int .u8 (.c 12),.int .u8 (.c 14),.int .u8 (.c 9),.int .u8 (.c 11),.int .u8 (.c 13),.int .u8 (.c 15),.int .u8 (.c 14),.int .u8 (.c 4),.int .u8 (.c 9),.int .u8 (.c 13),.int .u8 (.c 10),.int .u8 (.c 8),.int .u8 (.c 15),.int .u8 (.c 6),.int .u8 (.c 1),.int .u8 (.c 0),.int .u8 (.c 11),.int .u8 (.c 5),.int .u8 (.c 12),.int .u8 (.c 2),.int .u8 (.c 7),.int .u8 (.c 3),.int .u8 (.c 11),.int .u8 (.c 12),.int .u8 (.c 5),.int .u8 (.c 15),.int .u8 (.c 8),.int .u8 (.c 0),.int .u8 (.c 2),.int .u8 (.c 13),.int .u8 (.c 10),.int .u8 (.c 3),.int .u8 (.c 7),.int .u8 (.c 9),.int .u8 (.c 14),.int .u8 (.c 6),.int .u8 (.c 1),.int .u8 (.c 4),.int .u8 (.c 7),.int .u8 (.c 3),.int .u8 (.c 13),.int .u8 (.c 11),.int .u8 (.c 9),.int .u8 (.c 1),.int .u8 (.c 12),.int .u8 (.c 14),.int .u8 (.c 2),.int .u8 (.c 5),.int .u8 (.c 4),.int .u8 (.c 15),.int .u8 (.c 6),.int .u8 (.c 10),.int .u8 (.c 0),.int .u8 (.c 8),.int .u8 (.c 9),.int .u8 (.c 5),.int .u8 (.c 2),.int .u8 (.c 10),.int .u8 (.c 0),.int .u8 (.c 7),.int .u8 (.c 4),.int .u8 (.c 15),.int .u8 (.c 14),.int .u8 (.c 11),.int .u8 (.c 6),.int .u8 (.c 3),.int .u8 (.c 1),.int .u8 (.c 12),.int .u8 (.c 8),.int .u8 (.c 13),.int .u8 (.c 2),.int .u8 (.c 6),.int .u8 (.c 0),.int .u8 (.c 8),.int .u8 (.c 12),.int .u8 (.c 10),.int .u8 (.c 11),.int .u8 (.c 3),.int .u8 (.c 4),.int .u8 (.c 7),.int .u8 (.c 15),.int .u8 (.c 1),.int .u8 (.c 13),.int .u8 (.c 5),.int .u8 (.c 14),.int .u8 (.c 9),.int .u8 (.c 12),.int .u8 (.c 1),.int .u8 (.c 14),.int .u8 (.c 4),.int .u8 (.c 5),.int .u8 (.c 15),.int .u8 (.c 13),.int .u8 (.c 10),.int .u8 (.c 0),.int .u8 (.c 6),.int .u8 (.c 9),.int .u8 (.c 8),.int .u8 (.c 7),.int .u8 (.c 3),.int .u8 (.c 2),.int .u8 (.c 11),.int .u8 (.c 13),.int .u8 (.c 7),.int .u8 (.c 12),.int .u8 (.c 3),.int .u8 (.c 11),.int .u8 (.c 14),.int .u8 (.c 1),.int .u8 (.c 9),.int .u8 (.c 5),.int .u8 (.c 15),.int .u8 (.c 8),.int .u8 (.c 2),.int .u8 (.c 0),.int .u8 (.c 4),.int .u8 (.c 6),.int .u8 (.c 10),.int .u8 (.c 6),.int .u8 (.c 14),.int .u8 (.c 11),.int .u8 (.c 0),.int .u8 (.c 15),.int .u8 (.c 9),.int .u8 (.c 3),.int .u8 (.c 8),.int .u8 (.c 12),.int .u8 (.c 13),.int .u8 (.c 1),.int .u8 (.c 10),.int .u8 (.c 2),.int .u8 (.c 7),.int .u8 (.c 4),.int .u8 (.c 5),.int .u8 (.c 10),.int .u8 (.c 8),.int .u8 (.c 7),.int .u8 (.c 1),.int .u8 (.c 2),.int .u8 (.c 4),.int .u8 (.c 6),.int .u8 (.c 5),.int .u8 (.c 15),.int .u8 (.c 9),.int .u8 (.c 3),.int .u8 (.c 13),.int .u8 (.c 11),.int .u8 (.c 14),.int .u8 (.c 12),.int .u8 (.c 0),.int .u8 (.c 0),.int .u8 (.c 2),.int .u8 (.c 4),.int .u8 (.c 6),.int .u8 (.c 1),.int .u8 (.c 3),.int .u8 (.c 5),.int .u8 (.c 7),.int .u8 (.c 8),.int .u8 (.c 10),.int .u8 (.c 12),.int .u8 (.c 14),.int .u8 (.c 9),.int .u8 (.c 11),.int .u8 (.c 13),.int .u8 (.c 15),.int .u8 (.c 14),.int .u8 (.c 4),.int .u8 (.c 9),.int .u8 (.c 13),.int .u8 (.c 10),.int .u8 (.c 8),.int .u8 (.c 15),.int .u8 (.c 6),.int .u8 (.c 1),.int .u8 (.c 0),.int .u8 (.c 11),.int .u8 (.c 5),.int .u8 (.c 12),.int .u8 (.c 2),.int .u8 (.c 7),.int .u8 (.c 3)]
def tabIv:List AV:=[.int .u64 (.c 7640891576956012808),.int .u64 (.c 13503953896175478587),.int .u64 (.c 4354685564936845355),.int .u64 (.c 11912009170470909681),.int .u64 (.c 5840696475078001361),.int .u64 (.c 11170449401992604703),.int .u64 (.c 2270897969802886507),.int .u64 (.c 6620516959819538809)]
def noGlob:Nat → Option (List AV)
 | 2=>some tabP
 | 8=>some tabIv
 | _=>none
def extA (f:Nat) (args:List AV):Option AV:=
 match Nat.beq f 87,args with
 | true,[.num a,.num b,.num c]=>
  match a.bv64,b.bv64,c.bv64 with
  | some x,some y,some z=>
   match Nat.ble z.toNat 1 with
   | true=>some (.obj .tup [.num (.int .u64 (.c (((x.toNat + y.toNat + z.toNat) % 18446744073709551616:Nat):Int))),.num (.int .u64 (.c (((x.toNat + y.toNat + z.toNat) / 18446744073709551616:Nat):Int)))])
   | false=>none
  | _,_,_=>none
 | _,_=>none
set_option maxRecDepth 20000 in
def nv:Nat → Nat
 | 3=>5 | 4=>9 | 5=>4 | 6=>5 | 7=>6 | 8=>6 | 9=>14 | 10=>1 | 11=>5 | 12=>9 | 13=>19 | 14=>22 | 15=>16 | 16=>2 | 17=>3 | 18=>10 | 19=>5 | 20=>19 | 21=>27 | 22=>2 | 23=>13 | 24=>13 | 25=>9 | 26=>1 | 27=>12 | 28=>5 | 29=>23 | 30=>21 | 31=>6 | 32=>4 | 33=>3 | 34=>20 | 35=>13 | 36=>17 | 37=>17 | 38=>7 | 39=>5 | 40=>9 | 41=>23 | 42=>9 | 43=>5 | 44=>5 | 45=>5 | 46=>23 | 47=>3 | 48=>20 | 49=>3 | 50=>1 | 51=>24 | 52=>7 | 53=>3 | 54=>1 | 55=>4 | 56=>8 | 57=>9 | 58=>14 | 59=>12 | 66=>5 | 67=>5 | 69=>3 | 70=>2 | 75=>7 | 78=>12 | 79=>7 | 80=>48 | 86=>14 | 107=>6 | 108=>9 | 109=>10 | 110=>4 | 111=>31 | 112=>6 | _=>0
set_option maxRecDepth 20000 in
def keep:Nat → List Nat
 | 3=>[7,19] | 4=>[11,34] | 5=>[7,15] | 7=>[10,14,25] | 9=>[20,39] | 11=>[6,7,5,11] | 15=>[18] | 19=>[5,6] | 21=>[37,38,39,36,52,53,54,51] | 22=>[3] | 25=>[12,39,64,86] | 27=>[26] | 30=>[22,25,51] | 34=>[25,39,40,38,53,97] | 35=>[17,41,42,66,67] | 36=>[25,29,34] | 37=>[23,35,36,34,56,57,55] | 38=>[12,16] | 39=>[6,7] | 40=>[43] | 41=>[26,50,60,68,94,127] | 42=>[13,14,15,12] | 43=>[7] | 44=>[7] | 46=>[36,66,60,84,92,112,109] | 48=>[30,41,56,46,66] | 51=>[35,50,67,74,87,94,100,106,110] | 52=>[39,34,19,52,66,63,82,48] | 54=>[44] | 55=>[5,6,4] | 56=>[10] | 58=>[14,15,32,85,144,145,171,172,143] | 78=>[18,22,74] | 108=>[23,15,78,73,96] | 109=>[33,50,51,49] | 111=>[42,46,106,107,119,120] | _=>[]
def dyn:Nat → Nat → Bool
 | 41,6=>true | 4,6=>true | 14,2=>true | 18,1=>true | 34,15=>true | 34,18=>true | 40,2=>true | 108,5=>true | 108,18=>true | _,_=>false
def scope (f:Nat):Bool:=elemN f [3,4,5,6,7,8,9,10,11,12,13,14,16,17,18,19,20,21,22,23,24,25,26,27,28,29,30,31,32,33,34,35,37,38,39,40,41,42,43,44,45,46,47,48,49,53,54,55,56,57,58,59,78,79,80,86,107,108,109,110,111,112]
def meth (t:Nat) (m:String):Option FuncId:=
 if t = 86 ∧ m = "Write" then some 108 else
 if t = 86 ∧ m = "Sum" then some 107 else
 if t = 86 ∧ m = "Reset" then some 54 else
 none
noncomputable def cfg (spec:FuncId → Option Eng.Spec) (loop:FuncId → Nat → Option LSpec):Cfg:={ P:=Tryd.prog,glob:=noGlob,nv:=nv,keep:=keep,dyn:=dyn,spec:=spec,loop:=loop,scope:=scope,meth:=meth,ext:=extA }
def noSpec:FuncId → Option Eng.Spec:=fun _=>none
def noLoop:FuncId → Nat → Option LSpec:=fun _ _=>none
set_option maxRecDepth 20000 in
theorem fnOk_any (spec:FuncId → Option Eng.Spec) (loop:FuncId → Nat → Option LSpec) (f:FuncId):fnOk (cfg spec loop) f = fnOk (cfg noSpec noLoop) f:=rfl
def Fine (f:FuncId):Prop:=fnOk (cfg noSpec noLoop) f = true
theorem mixed:Tryd.prog.follows .mixedOrders = true:=by kernel_rfl
theorem meth0 [Co] (v:Value) (w:World):(method (Tryd.prog.types.size + Made.depth) 86 v "Write").runQ Tryd.prog w = .ok (108,v) w:=by kernel_rfl
theorem meth1 [Co] (v:Value) (w:World):(method (Tryd.prog.types.size + Made.depth) 86 v "Sum").runQ Tryd.prog w = .ok (107,v) w:=by kernel_rfl
theorem meth2 [Co] (v:Value) (w:World):(method (Tryd.prog.types.size + Made.depth) 86 v "Reset").runQ Tryd.prog w = .ok (54,v) w:=by kernel_rfl
theorem methOk [Co]:MethOk Tryd.prog meth:=by
 intro t m f h v w
 unfold meth at h
 split at h
 ·rename_i e;obtain ⟨rfl,rfl⟩:=e;have h:=Option.some.inj h;subst h;exact meth0 v w
 split at h
 ·rename_i e;obtain ⟨rfl,rfl⟩:=e;have h:=Option.some.inj h;subst h;exact meth1 v w
 split at h
 ·rename_i e;obtain ⟨rfl,rfl⟩:=e;have h:=Option.some.inj h;subst h;exact meth2 v w
 cases h
end
end Go.Proofs.YtineimjmnbjdlaaDoor

/- An interpreter of the model's code over abstract values, proved sound, and a walk in company by it: part of the proof of FnArgon2Start. No condition. -/
import Derived.Test.YtineimjmnbjdlaaDoorYF
set_option linter.unusedVariables false
set_option linter.unusedSectionVars false
set_option linter.unusedSimpArgs false
namespace Go.Proofs.YtineimjmnbjdlaaDoor
section
open Go.Eng
def rrB (x:BitVec 64) (n:Nat):BitVec 64:=x >>> n ||| x <<< (64 - n)
def loB (x:BitVec 64):BitVec 64:=(x.setWidth 32).setWidth 64
def qB (a b c d:BitVec 64):Q4:=
 let a1:=a + (b + 2#64 * loB a * loB b)
 let d1:=rrB (d ^^^ a1) 32
 let c1:=c + (d1 + 2#64 * loB c * loB d1)
 let b1:=rrB (b ^^^ c1) 24
 let a2:=a1 + (b1 + 2#64 * loB a1 * loB b1)
 let d2:=rrB (d1 ^^^ a2) 16
 let c2:=c1 + (d2 + 2#64 * loB c1 * loB d2)
 ⟨a2,rrB (b1 ^^^ c2) 63,c2,d2⟩
def rnB (v:V16):V16:=
 match v with
 | ⟨v0,v1,v2,v3,v4,v5,v6,v7,v8,v9,v10,v11,v12,v13,v14,v15⟩=>
  let A:=qB v0 v4 v8 v12
  let B:=qB v1 v5 v9 v13
  let C:=qB v2 v6 v10 v14
  let D:=qB v3 v7 v11 v15
  let E:=qB A.a B.b C.c D.d
  let F:=qB B.a C.b D.c A.d
  let G:=qB C.a D.b A.c B.d
  let H:=qB D.a A.b B.c C.d
  ⟨E.a,F.a,G.a,H.a,H.b,E.b,F.b,G.b,G.c,H.c,E.c,F.c,F.d,G.d,H.d,E.d⟩
def selB (ix:List Nat) (t:Vec 64):V16:=
 match ix with
 | [i0,i1,i2,i3,i4,i5,i6,i7,i8,i9,i10,i11,i12,i13,i14,i15]=>⟨t.l.getD i0 0#64,t.l.getD i1 0#64,t.l.getD i2 0#64,t.l.getD i3 0#64,t.l.getD i4 0#64,t.l.getD i5 0#64,t.l.getD i6 0#64,t.l.getD i7 0#64,t.l.getD i8 0#64,t.l.getD i9 0#64,t.l.getD i10 0#64,t.l.getD i11 0#64,t.l.getD i12 0#64,t.l.getD i13 0#64,t.l.getD i14 0#64,t.l.getD i15 0#64⟩
 | _=>⟨0#64,0#64,0#64,0#64,0#64,0#64,0#64,0#64,0#64,0#64,0#64,0#64,0#64,0#64,0#64,0#64⟩
def listB (y:V16):List (BitVec 64):=[y.x0,y.x1,y.x2,y.x3,y.x4,y.x5,y.x6,y.x7,y.x8,y.x9,y.x10,y.x11,y.x12,y.x13,y.x14,y.x15]
def setsB:List Nat → List (BitVec 64) → Vec 64 → Vec 64
 | i :: r,y :: ys,t=>setsB r ys (t.set i y)
 | _,_,t=>t
def putS (ix:List Nat) (t:Vec 64):Vec 64:=setsB ix (listB (rnB (selB ix t))) t
def foldS:List (List Nat) → Vec 64 → Vec 64
 | [],t=>t
 | ix :: r,t=>foldS r (putS ix t)
def ixS:List (List Nat):=(List.range 8).map (fun k=>(List.range 16).map fun j=>16 * k + j) ++ (List.range 8).map fun k=>(List.range 16).map fun j=>2 * k + 16 * (j / 2) + j % 2
theorem setsB_n:∀ (ix:List Nat) (ys:List (BitVec 64)) (t:Vec 64),(setsB ix ys t).n = t.n
 | [],_,_=>rfl
 | _ :: _,[],_=>rfl
 | i :: r,y :: ys,t=>(setsB_n r ys (t.set i y)).trans rfl
theorem putS_n (ix:List Nat) (t:Vec 64):(putS ix t).n = t.n:=setsB_n _ _ _
theorem foldS_n:∀ (l:List (List Nat)) (t:Vec 64),(foldS l t).n = t.n
 | [],_=>rfl
 | ix :: r,t=>(foldS_n r (putS ix t)).trans (putS_n ix t)
end
section
open Go.Eng
variable [RowAddr] [Co] [SeatCo]
structure c80D where
 t:Vec 64
 o0:Nat
 o1:Nat
 o2:Nat
 o3:Nat
 o4:Nat
 o5:Nat
 o6:Nat
 o7:Nat
 o8:Nat
 o9:Nat
 o10:Nat
 o11:Nat
 o12:Nat
 o13:Nat
 o14:Nat
 o15:Nat
def c80_rd (a:List AV) (K:List Blk):Option c80D:=
 match a with
 | [(.ref (.ptr 0 (.s o0))),(.ref (.ptr 0 (.s o1))),(.ref (.ptr 0 (.s o2))),(.ref (.ptr 0 (.s o3))),(.ref (.ptr 0 (.s o4))),(.ref (.ptr 0 (.s o5))),(.ref (.ptr 0 (.s o6))),(.ref (.ptr 0 (.s o7))),(.ref (.ptr 0 (.s o8))),(.ref (.ptr 0 (.s o9))),(.ref (.ptr 0 (.s o10))),(.ref (.ptr 0 (.s o11))),(.ref (.ptr 0 (.s o12))),(.ref (.ptr 0 (.s o13))),(.ref (.ptr 0 (.s o14))),(.ref (.ptr 0 (.s o15)))]=>
  match K with
  | [⟨(.b64 t),.own⟩]=>some ⟨t,o0,o1,o2,o3,o4,o5,o6,o7,o8,o9,o10,o11,o12,o13,o14,o15⟩
  | _=>none
 | _=>none
def c80:Ct c80D where
 pat:=[(.ptr 0 (.s 0)),(.ptr 0 (.s 0)),(.ptr 0 (.s 0)),(.ptr 0 (.s 0)),(.ptr 0 (.s 0)),(.ptr 0 (.s 0)),(.ptr 0 (.s 0)),(.ptr 0 (.s 0)),(.ptr 0 (.s 0)),(.ptr 0 (.s 0)),(.ptr 0 (.s 0)),(.ptr 0 (.s 0)),(.ptr 0 (.s 0)),(.ptr 0 (.s 0)),(.ptr 0 (.s 0)),(.ptr 0 (.s 0))]
 patH:=[⟨(.b64 (Vec.zero 64 0)),.own⟩]
 read:=c80_rd
 args:=fun ⟨_,o0,o1,o2,o3,o4,o5,o6,o7,o8,o9,o10,o11,o12,o13,o14,o15⟩=>[(.ptr 0 (.s o0)),(.ptr 0 (.s o1)),(.ptr 0 (.s o2)),(.ptr 0 (.s o3)),(.ptr 0 (.s o4)),(.ptr 0 (.s o5)),(.ptr 0 (.s o6)),(.ptr 0 (.s o7)),(.ptr 0 (.s o8)),(.ptr 0 (.s o9)),(.ptr 0 (.s o10)),(.ptr 0 (.s o11)),(.ptr 0 (.s o12)),(.ptr 0 (.s o13)),(.ptr 0 (.s o14)),(.ptr 0 (.s o15))]
 heap:=fun ⟨t,_,_,_,_,_,_,_,_,_,_,_,_,_,_,_,_⟩=>[⟨(.b64 t),.own⟩]
 out:=fun ⟨t,o0,o1,o2,o3,o4,o5,o6,o7,o8,o9,o10,o11,o12,o13,o14,o15⟩=>[⟨(.b64 (putS [o0,o1,o2,o3,o4,o5,o6,o7,o8,o9,o10,o11,o12,o13,o14,o15] t)),.own⟩]
 val:=fun ⟨_,_,_,_,_,_,_,_,_,_,_,_,_,_,_,_,_⟩=>(.tup [])
 good:=fun ⟨t,o0,o1,o2,o3,o4,o5,o6,o7,o8,o9,o10,o11,o12,o13,o14,o15⟩=>decide (o0 < t.n ∧ o1 < t.n ∧ o2 < t.n ∧ o3 < t.n ∧ o4 < t.n ∧ o5 < t.n ∧ o6 < t.n ∧ o7 < t.n ∧ o8 < t.n ∧ o9 < t.n ∧ o10 < t.n ∧ o11 < t.n ∧ o12 < t.n ∧ o13 < t.n ∧ o14 < t.n ∧ o15 < t.n)
theorem c80_run (t:Vec 64) (o0 o1 o2 o3 o4 o5 o6 o7 o8 o9 o10 o11 o12 o13 o14 o15:Nat):endsAs (c80.heap ⟨t,o0,o1,o2,o3,o4,o5,o6,o7,o8,o9,o10,o11,o12,o13,o14,o15⟩).length (some [0]) (c80.out ⟨t,o0,o1,o2,o3,o4,o5,o6,o7,o8,o9,o10,o11,o12,o13,o14,o15⟩) (c80.val ⟨t,o0,o1,o2,o3,o4,o5,o6,o7,o8,o9,o10,o11,o12,o13,o14,o15⟩) (goB noSpec noLoop 80 (c80.args ⟨t,o0,o1,o2,o3,o4,o5,o6,o7,o8,o9,o10,o11,o12,o13,o14,o15⟩) ⟨c80.heap ⟨t,o0,o1,o2,o3,o4,o5,o6,o7,o8,o9,o10,o11,o12,o13,o14,o15⟩,big,[],[]⟩) = some ((c80.out ⟨t,o0,o1,o2,o3,o4,o5,o6,o7,o8,o9,o10,o11,o12,o13,o14,o15⟩),(c80.val ⟨t,o0,o1,o2,o3,o4,o5,o6,o7,o8,o9,o10,o11,o12,o13,o14,o15⟩),[decide (o15 < t.n),decide (o14 < t.n),decide (o13 < t.n),decide (o12 < t.n),decide (o11 < t.n),decide (o10 < t.n),decide (o9 < t.n),decide (o8 < t.n),decide (o7 < t.n),decide (o6 < t.n),decide (o5 < t.n),decide (o4 < t.n),decide (o3 < t.n),decide (o2 < t.n),decide (o1 < t.n),decide (o0 < t.n),decide (o15 < t.n),decide (o14 < t.n),decide (o13 < t.n),decide (o12 < t.n),decide (o11 < t.n),decide (o10 < t.n),decide (o9 < t.n),decide (o8 < t.n),decide (o7 < t.n),decide (o6 < t.n),decide (o5 < t.n),decide (o4 < t.n),decide (o3 < t.n),decide (o2 < t.n),decide (o1 < t.n),decide (o0 < t.n)]):=by kernel_rfl
set_option maxRecDepth 100000 in
theorem c80_read (a:List AV) (K:List Blk) (d:c80D) (h:c80.read a K = some d):a = c80.args d ∧ K = c80.heap d:=by
 replace h:c80_rd a K = some d:=h
 unfold c80_rd at h
 split at h
 case h_2=>cases h
 split at h
 case h_2=>cases h
 injection h with h;subst h
 exact ⟨rfl,rfl⟩
theorem c80_ok:SpecOk Tryd.prog noGlob 80 c80.spec:=by
 refine c80.ok (goB_ok no_specs (no_loops _)) c80_read ?_
 rintro ⟨t,o0,o1,o2,o3,o4,o5,o6,o7,o8,o9,o10,o11,o12,o13,o14,o15⟩ hg
 have hg:o0 < t.n ∧ o1 < t.n ∧ o2 < t.n ∧ o3 < t.n ∧ o4 < t.n ∧ o5 < t.n ∧ o6 < t.n ∧ o7 < t.n ∧ o8 < t.n ∧ o9 < t.n ∧ o10 < t.n ∧ o11 < t.n ∧ o12 < t.n ∧ o13 < t.n ∧ o14 < t.n ∧ o15 < t.n:=of_decide_eq_true hg
 refine ⟨[],(some [0]),_,c80_run t o0 o1 o2 o3 o4 o5 o6 o7 o8 o9 o10 o11 o12 o13 o14 o15,?_⟩
 repeat' (refine all_true_cons ?_ ?_)
 all_goals first | exact all_true_nil | rfl | (simp only [bq] <;> omega)
end
end Go.Proofs.YtineimjmnbjdlaaDoor

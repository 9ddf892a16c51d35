/- An interpreter of the model's code over abstract values, proved sound, and a walk in company by it: part of the proof of FnArgon2Start. No condition. -/
import Derived.Test.YtineimjmnbjdlaaDoorYI
set_option linter.unusedVariables false
set_option linter.unusedSectionVars false
set_option linter.unusedSimpArgs false
namespace Go.Proofs.YtineimjmnbjdlaaDoor
section
open Go.Eng
variable [RowAddr] [Co] [SeatCo]
def sigL:List Int:=[0,1,2,3,4,5,6,7,8,9,10,11,12,13,14,15,14,10,4,8,9,15,13,6,1,12,0,2,11,7,5,3,11,8,12,0,5,2,15,13,10,14,3,6,7,1,9,4,7,9,3,1,13,12,11,14,2,6,5,10,4,0,15,8,9,0,5,7,2,4,10,15,14,1,11,12,6,8,3,13,2,12,6,10,0,11,8,3,4,13,7,5,15,14,1,9,12,5,1,15,14,13,4,10,0,7,6,3,9,2,8,11,13,11,7,14,12,1,3,9,5,0,15,4,8,6,2,10,6,15,14,9,11,3,0,8,12,2,13,7,1,4,10,5,10,2,8,4,7,6,1,5,15,11,9,14,3,12,13,0]
def rr64 (x:BitVec 64) (n:Nat):BitVec 64:=x >>> n ||| x <<< (64 - n)
def qS (a b c d x y:BitVec 64):Q4:=
 let a1:=a + b + x
 let d1:=rr64 (d ^^^ a1) 32
 let c1:=c + d1
 let b1:=rr64 (b ^^^ c1) 24
 let a2:=a1 + b1 + y
 let d2:=rr64 (d1 ^^^ a2) 16
 let c2:=c1 + d2
 ⟨a2,rr64 (b1 ^^^ c2) 63,c2,d2⟩
def b2S (h:H8) (c0 c1 fl:BitVec 64) (m:Vec 64):H8:=b2q qS h c0 c1 fl m
def c78 (p k:Int):Ct Unit where
 pat:=[.int .u64 (.c p)]
 patH:=[]
 read:=fun a K=>match a,K with
  | [.num (.int .u64 (.c x))],[]=>if x = p then some () else none
  | _,_=>none
 args:=fun _=>[.int .u64 (.c p)]
 heap:=fun _=>[]
 out:=fun _=>[]
 val:=fun _=>.int .u64 (.c k)
 good:=fun _=>true
theorem c78_read (p k:Int) (a:List AV) (K:List Blk) (d:Unit) (h:(c78 p k).read a K = some d):a = (c78 p k).args d ∧ K = (c78 p k).heap d:=by
 simp only [c78] at h
 split at h
 ·split at h
  ·rename_i e;subst e;exact ⟨rfl,rfl⟩
  ·cases h
 ·cases h
theorem c78_ok {p k:Int} (h:endsAs 0 (some []) [] (.int .u64 (.c k)) (goB noSpec noLoop 78 [.int .u64 (.c p)] ⟨[],big,[],[]⟩) = some ([],.int .u64 (.c k),[])):SpecOk Tryd.prog noGlob 78 (c78 p k).spec:=by
 refine (c78 p k).ok (goB_ok no_specs (no_loops _)) (c78_read p k) ?_
 intro _ _
 exact ⟨[],some [],_,h,fun _ hx=>by cases hx⟩
theorem r78_2:SpecOk Tryd.prog noGlob 78 (c78 2 7640891576956012808).spec:=c78_ok (by kernel_rfl)
theorem r78_3:SpecOk Tryd.prog noGlob 78 (c78 3 13503953896175478587).spec:=c78_ok (by kernel_rfl)
theorem r78_5:SpecOk Tryd.prog noGlob 78 (c78 5 4354685564936845355).spec:=c78_ok (by kernel_rfl)
theorem r78_7:SpecOk Tryd.prog noGlob 78 (c78 7 11912009170470909681).spec:=c78_ok (by kernel_rfl)
theorem r78_11:SpecOk Tryd.prog noGlob 78 (c78 11 5840696475078001361).spec:=c78_ok (by kernel_rfl)
theorem r78_13:SpecOk Tryd.prog noGlob 78 (c78 13 11170449401992604703).spec:=c78_ok (by kernel_rfl)
theorem r78_17:SpecOk Tryd.prog noGlob 78 (c78 17 2270897969802886507).spec:=c78_ok (by kernel_rfl)
theorem r78_19:SpecOk Tryd.prog noGlob 78 (c78 19 6620516959819538809).spec:=c78_ok (by kernel_rfl)
def sp78:Eng.Spec:=orSpec (c78 2 7640891576956012808).spec (orSpec (c78 3 13503953896175478587).spec (orSpec (c78 5 4354685564936845355).spec (orSpec (c78 7 11912009170470909681).spec (orSpec (c78 11 5840696475078001361).spec (orSpec (c78 13 11170449401992604703).spec (orSpec (c78 17 2270897969802886507).spec ((c78 19 6620516959819538809).spec)))))))
theorem sp78_ok:SpecOk Tryd.prog noGlob 78 sp78:=SpecOk.or r78_2 (SpecOk.or r78_3 (SpecOk.or r78_5 (SpecOk.or r78_7 (SpecOk.or r78_11 (SpecOk.or r78_13 (SpecOk.or r78_17 (r78_19)))))))
def specs55:FuncId → Option Eng.Spec
 | 78=>some sp78
 | _=>none
theorem specs55_ok:∀ f sp,specs55 f = some sp → SpecOk Tryd.prog noGlob f sp:=by
 intro f sp h
 unfold specs55 at h
 split at h
 ·injection h with h;subst h;exact sp78_ok
 ·cases h
structure c55D where
 unit:Unit:=()
def c55_rd (a:List AV) (K:List Blk):Option c55D:=
 match a with
 | []=>
  match K with
  | []=>some ⟨()⟩
  | _=>none
 | _=>none
def c55:Ct c55D where
 pat:=[]
 patH:=[]
 read:=c55_rd
 args:=fun ⟨_⟩=>[]
 heap:=fun ⟨_⟩=>[]
 out:=fun ⟨_⟩=>[]
 val:=fun ⟨_⟩=>(.agg [(.int .u64 (.c 7640891576956012808)),(.int .u64 (.c 13503953896175478587)),(.int .u64 (.c 4354685564936845355)),(.int .u64 (.c 11912009170470909681)),(.int .u64 (.c 5840696475078001361)),(.int .u64 (.c 11170449401992604703)),(.int .u64 (.c 2270897969802886507)),(.int .u64 (.c 6620516959819538809))])
 good:=fun ⟨_⟩=>decide (True)
theorem c55_run  : endsAs (c55.heap ⟨()⟩).length (some []) (c55.out ⟨()⟩) (c55.val ⟨()⟩) (goB specs55 noLoop 55 (c55.args ⟨()⟩) ⟨c55.heap ⟨()⟩,big,[],[]⟩) = some ((c55.out ⟨()⟩),(c55.val ⟨()⟩),[true,true,true,true,true,true,true,true]):=by kernel_rfl
set_option maxRecDepth 100000 in
theorem c55_read (a:List AV) (K:List Blk) (d:c55D) (h:c55.read a K = some d):a = c55.args d ∧ K = c55.heap d:=by
 replace h:c55_rd a K = some d:=h
 unfold c55_rd at h
 split at h
 case h_2=>cases h
 split at h
 case h_2=>cases h
 injection h with h;subst h
 exact ⟨rfl,rfl⟩
theorem c55_ok:SpecOk Tryd.prog noGlob 55 c55.spec:=by
 refine c55.ok (goB_ok specs55_ok (no_loops _)) c55_read ?_
 rintro ⟨_⟩ hg
 have hg:True:=of_decide_eq_true hg
 refine ⟨[],(some []),_,c55_run ,?_⟩
 repeat' (refine all_true_cons ?_ ?_)
 all_goals first | exact all_true_nil | rfl | (simp only [bq] <;> omega)
structure c43D where
 v:BitVec 64
def c43_rd (a:List AV) (K:List Blk):Option c43D:=
 match a with
 | [(.agg [(.num (.int .i64 (.c 64))),(.num (.int .i64 (.c 32))),(.num (.int .i64 (.c 24))),(.num (.int .i64 (.c 16))),(.num (.int .i64 (.c 63))),(.num (.int .i64 (.c 12)))]),(.num (.w64 v))]=>
  match K with
  | []=>some ⟨v⟩
  | _=>none
 | _=>none
def c43:Ct c43D where
 pat:=[(.agg [(.int .i64 (.c 64)),(.int .i64 (.c 32)),(.int .i64 (.c 24)),(.int .i64 (.c 16)),(.int .i64 (.c 63)),(.int .i64 (.c 12))]),(.w64 0#64)]
 patH:=[]
 read:=c43_rd
 args:=fun ⟨v⟩=>[(.agg [(.int .i64 (.c 64)),(.int .i64 (.c 32)),(.int .i64 (.c 24)),(.int .i64 (.c 16)),(.int .i64 (.c 63)),(.int .i64 (.c 12))]),(.w64 v)]
 heap:=fun ⟨_⟩=>[]
 out:=fun ⟨_⟩=>[]
 val:=fun ⟨v⟩=>(.w64 v)
 good:=fun ⟨_⟩=>decide (True)
theorem c43_run (v:BitVec 64):endsAs (c43.heap ⟨v⟩).length (some []) (c43.out ⟨v⟩) (c43.val ⟨v⟩) (goB noSpec noLoop 43 (c43.args ⟨v⟩) ⟨c43.heap ⟨v⟩,big,[],[]⟩) = some ((c43.out ⟨v⟩),(c43.val ⟨v⟩),[]):=by kernel_rfl
set_option maxRecDepth 100000 in
theorem c43_read (a:List AV) (K:List Blk) (d:c43D) (h:c43.read a K = some d):a = c43.args d ∧ K = c43.heap d:=by
 replace h:c43_rd a K = some d:=h
 unfold c43_rd at h
 split at h
 case h_2=>cases h
 split at h
 case h_2=>cases h
 injection h with h;subst h
 exact ⟨rfl,rfl⟩
theorem c43_ok:SpecOk Tryd.prog noGlob 43 c43.spec:=by
 refine c43.ok (goB_ok no_specs (no_loops _)) c43_read ?_
 rintro ⟨v⟩ hg
 have hg:True:=of_decide_eq_true hg
 refine ⟨[],(some []),_,c43_run v,?_⟩
 repeat' (refine all_true_cons ?_ ?_)
 all_goals first | exact all_true_nil | rfl | (simp only [bq] <;> omega)
def specs79:FuncId → Option Eng.Spec
 | 43=>some c43.spec
 | _=>none
theorem specs79_ok:∀ f sp,specs79 f = some sp → SpecOk Tryd.prog noGlob f sp:=by
 intro f sp h
 unfold specs79 at h
 split at h
 ·injection h with h;subst h;exact c43_ok
 ·cases h
def c79 (p:Int) (n:Nat):Ct (BitVec 64) where
 pat:=[(.agg [.int .i64 (.c 64),.int .i64 (.c 32),.int .i64 (.c 24),.int .i64 (.c 16),.int .i64 (.c 63),.int .i64 (.c 12)]),.w64 0#64,.int .i64 (.c p)]
 patH:=[]
 read:=fun a K=>match a,K with
  | [(.agg [.num (.int .i64 (.c 64)),.num (.int .i64 (.c 32)),.num (.int .i64 (.c 24)),.num (.int .i64 (.c 16)),.num (.int .i64 (.c 63)),.num (.int .i64 (.c 12))]),.num (.w64 v),.num (.int .i64 (.c x))],[]=>if x = p then some v else none
  | _,_=>none
 args:=fun v=>[(.agg [.int .i64 (.c 64),.int .i64 (.c 32),.int .i64 (.c 24),.int .i64 (.c 16),.int .i64 (.c 63),.int .i64 (.c 12)]),.w64 v,.int .i64 (.c p)]
 heap:=fun _=>[]
 out:=fun _=>[]
 val:=fun v=>.w64 (rr64 v n)
 good:=fun _=>true
theorem c79_read (p:Int) (n:Nat) (a:List AV) (K:List Blk) (d:BitVec 64) (h:(c79 p n).read a K = some d):a = (c79 p n).args d ∧ K = (c79 p n).heap d:=by
 simp only [c79] at h
 split at h
 ·split at h
  ·rename_i e;subst e;injection h with h;subst h;exact ⟨rfl,rfl⟩
  ·cases h
 ·cases h
theorem c79_ok {p:Int} {n:Nat} (h:∀ v,endsAs 0 (some []) [] (.w64 (rr64 v n)) (goB specs79 noLoop 79 ((c79 p n).args v) ⟨[],big,[],[]⟩) = some ([],.w64 (rr64 v n),[true])):SpecOk Tryd.prog noGlob 79 (c79 p n).spec:=by
 refine (c79 p n).ok (goB_ok specs79_ok (no_loops _)) (c79_read p n) ?_
 intro v _
 exact ⟨[],some [],_,h v,all_true_cons rfl all_true_nil⟩
def sp79:Eng.Spec:=orSpec (c79 32 32).spec (orSpec (c79 24 24).spec (orSpec (c79 16 16).spec ((c79 63 63).spec)))
theorem sp79_ok:SpecOk Tryd.prog noGlob 79 sp79:=SpecOk.or (c79_ok fun v=>by kernel_rfl) (SpecOk.or (c79_ok fun v=>by kernel_rfl) (SpecOk.or (c79_ok fun v=>by kernel_rfl) ((c79_ok fun v=>by kernel_rfl))))
def specs57:FuncId → Option Eng.Spec
 | 43=>some c43.spec
 | 79=>some sp79
 | _=>none
theorem specs57_ok:∀ f sp,specs57 f = some sp → SpecOk Tryd.prog noGlob f sp:=by
 intro f sp h
 unfold specs57 at h
 split at h
 ·injection h with h;subst h;exact c43_ok
 ·injection h with h;subst h;exact sp79_ok
 ·cases h
structure c57D where
 v:V16
 x:BitVec 64
 y:BitVec 64
def v16c (v:V16):List AV:=[.w64 v.x0,.w64 v.x1,.w64 v.x2,.w64 v.x3,.w64 v.x4,.w64 v.x5,.w64 v.x6,.w64 v.x7,.w64 v.x8,.w64 v.x9,.w64 v.x10,.w64 v.x11,.w64 v.x12,.w64 v.x13,.w64 v.x14,.w64 v.x15]
def rd16 (l:List AV):Option V16:=match l with
 | [.num (.w64 v0),.num (.w64 v1),.num (.w64 v2),.num (.w64 v3),.num (.w64 v4),.num (.w64 v5),.num (.w64 v6),.num (.w64 v7),.num (.w64 v8),.num (.w64 v9),.num (.w64 v10),.num (.w64 v11),.num (.w64 v12),.num (.w64 v13),.num (.w64 v14),.num (.w64 v15)]=>some ⟨v0,v1,v2,v3,v4,v5,v6,v7,v8,v9,v10,v11,v12,v13,v14,v15⟩
 | _=>none
theorem rd16_eq {l:List AV} {v:V16} (h:rd16 l = some v):l = v16c v:=by
 unfold rd16 at h
 split at h
 ·injection h with h;subst h;rfl
 ·cases h
def c57 (a b c d:Int) (f:V16 → BitVec 64 → BitVec 64 → Q4) (g:V16 → Q4 → V16):Ct c57D where
 pat:=[(.agg [.int .i64 (.c 64),.int .i64 (.c 32),.int .i64 (.c 24),.int .i64 (.c 16),.int .i64 (.c 63),.int .i64 (.c 12)]),.ptr 0 (.c 0),.int .i64 (.c a),.int .i64 (.c b),.int .i64 (.c c),.int .i64 (.c d),.w64 0#64,.w64 0#64]
 patH:=[⟨.gen (List.replicate 16 (.w64 0#64)),.own⟩]
 read:=fun z K=>match z,K with
  | [(.agg [.num (.int .i64 (.c 64)),.num (.int .i64 (.c 32)),.num (.int .i64 (.c 24)),.num (.int .i64 (.c 16)),.num (.int .i64 (.c 63)),.num (.int .i64 (.c 12))]),.ref (.ptr 0 (.c 0)),.num (.int .i64 (.c a')),.num (.int .i64 (.c b')),.num (.int .i64 (.c c')),.num (.int .i64 (.c d')),.num (.w64 x),.num (.w64 y)],[⟨.gen l,.own⟩]=>
   if a' = a ∧ b' = b ∧ c' = c ∧ d' = d then match rd16 l with
    | some v=>some ⟨v,x,y⟩
    | none=>none
   else none
  | _,_=>none
 args:=fun ⟨_,x,y⟩=>[(.agg [.int .i64 (.c 64),.int .i64 (.c 32),.int .i64 (.c 24),.int .i64 (.c 16),.int .i64 (.c 63),.int .i64 (.c 12)]),.ptr 0 (.c 0),.int .i64 (.c a),.int .i64 (.c b),.int .i64 (.c c),.int .i64 (.c d),.w64 x,.w64 y]
 heap:=fun ⟨v,_,_⟩=>[⟨.gen (v16c v),.own⟩]
 out:=fun ⟨v,x,y⟩=>[⟨.gen (v16c (g v (f v x y))),.own⟩]
 val:=fun _=>.obj .tup []
 good:=fun _=>true
section
variable {a b c d:Int} {f:V16 → BitVec 64 → BitVec 64 → Q4} {g:V16 → Q4 → V16}
theorem c57_read (z:List AV) (K:List Blk) (e:c57D) (h:(c57 a b c d f g).read z K = some e):z = (c57 a b c d f g).args e ∧ K = (c57 a b c d f g).heap e:=by
 simp only [c57] at h
 split at h
 ·split at h
  ·rename_i q
   obtain ⟨rfl,rfl,rfl,rfl⟩:=q
   split at h
   ·rename_i hv
    obtain rfl:=rd16_eq hv
    injection h with h;subst h;exact ⟨rfl,rfl⟩
   ·cases h
  ·cases h
 ·cases h
theorem c57_ok (h:∀ v x y,endsAs 1 (some [0]) ((c57 a b c d f g).out ⟨v,x,y⟩) (.tup []) (goB specs57 noLoop 57 ((c57 a b c d f g).args ⟨v,x,y⟩) ⟨(c57 a b c d f g).heap ⟨v,x,y⟩,big,[],[]⟩) = some ((c57 a b c d f g).out ⟨v,x,y⟩,.obj .tup [],[true,true,true,true,true,true,true,true])):SpecOk Tryd.prog noGlob 57 (c57 a b c d f g).spec:=by
 refine (c57 a b c d f g).ok (goB_ok specs57_ok (no_loops _)) c57_read ?_
 rintro ⟨v,x,y⟩ _
 refine ⟨[],some [0],_,h v x y,?_⟩
 repeat' (refine all_true_cons ?_ ?_)
 all_goals first | exact all_true_nil | rfl
end
def sp57:Eng.Spec:=orSpec (c57 0 4 8 12 (fun v=>qS v.x0 v.x4 v.x8 v.x12) fun v q=>{ v with x0:=q.a,x4:=q.b,x8:=q.c,x12:=q.d }).spec (orSpec (c57 1 5 9 13 (fun v=>qS v.x1 v.x5 v.x9 v.x13) fun v q=>{ v with x1:=q.a,x5:=q.b,x9:=q.c,x13:=q.d }).spec (orSpec (c57 2 6 10 14 (fun v=>qS v.x2 v.x6 v.x10 v.x14) fun v q=>{ v with x2:=q.a,x6:=q.b,x10:=q.c,x14:=q.d }).spec (orSpec (c57 3 7 11 15 (fun v=>qS v.x3 v.x7 v.x11 v.x15) fun v q=>{ v with x3:=q.a,x7:=q.b,x11:=q.c,x15:=q.d }).spec (orSpec (c57 0 5 10 15 (fun v=>qS v.x0 v.x5 v.x10 v.x15) fun v q=>{ v with x0:=q.a,x5:=q.b,x10:=q.c,x15:=q.d }).spec (orSpec (c57 1 6 11 12 (fun v=>qS v.x1 v.x6 v.x11 v.x12) fun v q=>{ v with x1:=q.a,x6:=q.b,x11:=q.c,x12:=q.d }).spec (orSpec (c57 2 7 8 13 (fun v=>qS v.x2 v.x7 v.x8 v.x13) fun v q=>{ v with x2:=q.a,x7:=q.b,x8:=q.c,x13:=q.d }).spec ((c57 3 4 9 14 (fun v=>qS v.x3 v.x4 v.x9 v.x14) fun v q=>{ v with x3:=q.a,x4:=q.b,x9:=q.c,x14:=q.d }).spec)))))))
theorem sp57_ok:SpecOk Tryd.prog noGlob 57 sp57:=SpecOk.or (c57_ok fun v x y=>by kernel_rfl) (SpecOk.or (c57_ok fun v x y=>by kernel_rfl) (SpecOk.or (c57_ok fun v x y=>by kernel_rfl) (SpecOk.or (c57_ok fun v x y=>by kernel_rfl) (SpecOk.or (c57_ok fun v x y=>by kernel_rfl) (SpecOk.or (c57_ok fun v x y=>by kernel_rfl) (SpecOk.or (c57_ok fun v x y=>by kernel_rfl) ((c57_ok fun v x y=>by kernel_rfl))))))))
def specs41:FuncId → Option Eng.Spec
 | 55=>some c55.spec
 | 57=>some sp57
 | 43=>some c43.spec
 | _=>none
theorem specs41_ok:∀ f sp,specs41 f = some sp → SpecOk Tryd.prog noGlob f sp:=by
 intro f sp h
 unfold specs41 at h
 split at h
 ·injection h with h;subst h;exact c55_ok
 ·injection h with h;subst h;exact sp57_ok
 ·injection h with h;subst h;exact c43_ok
 ·cases h
end
end Go.Proofs.YtineimjmnbjdlaaDoor

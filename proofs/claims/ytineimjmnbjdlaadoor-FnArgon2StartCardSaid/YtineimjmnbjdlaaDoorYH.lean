/- An interpreter of the model's code over abstract values, proved sound, and a walk in company by it: part of the proof of FnArgon2Start. No condition. -/
import Derived.Test.YtineimjmnbjdlaaDoorYG
set_option linter.unusedVariables false
set_option linter.unusedSectionVars false
set_option linter.unusedSimpArgs false
namespace Go.Proofs.YtineimjmnbjdlaaDoor
section
open Go.Eng
variable [RowAddr] [Co] [SeatCo]
def specs58:FuncId → Option Eng.Spec
 | 80=>some c80.spec
 | _=>none
theorem specs58_ok:∀ f sp,specs58 f = some sp → SpecOk Tryd.prog noGlob f sp:=by
 intro f sp h
 unfold specs58 at h
 split at h
 ·injection h with h;subst h;exact c80_ok
 ·cases h
def xorV (x y:Vec 64):Vec 64:=Vec.of ((List.range 128).map fun i=>x.l.getD i 0#64 ^^^ y.l.getD i 0#64)
def pbV (x y:Vec 64):Vec 64:=Vec.of ((List.range 128).map fun i=>(x.l.getD i 0#64 ^^^ y.l.getD i 0#64) ^^^ (foldS ixS (xorV x y)).l.getD i 0#64)
def inB (ix:List Nat) (t:Vec 64):Bool:=
 match ix with
 | [i0,i1,i2,i3,i4,i5,i6,i7,i8,i9,i10,i11,i12,i13,i14,i15]=>decide (i0 < t.n ∧ i1 < t.n ∧ i2 < t.n ∧ i3 < t.n ∧ i4 < t.n ∧ i5 < t.n ∧ i6 < t.n ∧ i7 < t.n ∧ i8 < t.n ∧ i9 < t.n ∧ i10 < t.n ∧ i11 < t.n ∧ i12 < t.n ∧ i13 < t.n ∧ i14 < t.n ∧ i15 < t.n)
 | _=>true
theorem inB_ok (t:Vec 64) (ht:t.n = 128) (l:List (List Nat)):∀ k,k < 16 → inB (ixS.getD (15 - k) []) (foldS l t) = true:=by
 intro k hk
 have e:(foldS l t).n = 128:=(foldS_n _ _).trans ht
 have h:∀ ix:List Nat,(∀ i ∈ ix,i < 128) → inB ix (foldS l t) = true:=by
  intro ix hi
  unfold inB
  split
  ·rw [e]
   exact decide_eq_true ⟨hi _ (by simp),hi _ (by simp),hi _ (by simp),hi _ (by simp),hi _ (by simp),hi _ (by simp),hi _ (by simp),hi _ (by simp),hi _ (by simp),hi _ (by simp),hi _ (by simp),hi _ (by simp),hi _ (by simp),hi _ (by simp),hi _ (by simp),hi _ (by simp)⟩
  ·rfl
 refine h _ ?_
 revert k
 decide
theorem cnd_ok (x y:Vec 64):∀ b ∈ (List.range 128).reverse.map (fun i=>decide (i < (foldS ixS (xorV x y)).n)) ++ (List.range 16).map (fun k=>inB (ixS.getD (15 - k) []) (foldS (ixS.take (15 - k)) (xorV x y))),b = true:=by
 intro b hb
 rw [List.mem_append,List.mem_map,List.mem_map] at hb
 rcases hb with ⟨i,hi,rfl⟩ | ⟨k,hk,rfl⟩
 ·refine decide_eq_true ?_
  rw [foldS_n]
  exact List.mem_range.mp (List.mem_reverse.mp hi)
 ·exact inB_ok _ rfl _ k (List.mem_range.mp hk)
structure c58aD where
 u:Vec 64
 x:Vec 64
 y:Vec 64
def c58a_rd (a:List AV) (K:List Blk):Option c58aD:=
 match a with
 | [(.ref (.ptr 0 (.c 0))),(.ref (.ptr 1 (.c 0))),(.ref (.ptr 2 (.c 0))),(.atom (.bool (.c false)))]=>
  match K with
  | [⟨(.gen xs_u),.own⟩,⟨(.gen xs_x),.own⟩,⟨(.gen xs_y),.ro⟩]=>
   (match rd64 128 xs_u with
   | some u=>
   (match rd64 128 xs_x with
   | some x=>
   (match rd64 128 xs_y with
   | some y=>some ⟨u,x,y⟩
   | none=>none)
   | none=>none)
   | none=>none)
  | _=>none
 | _=>none
def c58a:Ct c58aD where
 pat:=[(.ptr 0 (.c 0)),(.ptr 1 (.c 0)),(.ptr 2 (.c 0)),(.bool (.c false))]
 patH:=[⟨(.gen (List.replicate 128 (.w64 0#64))),.own⟩,⟨(.gen (List.replicate 128 (.w64 0#64))),.own⟩,⟨(.gen (List.replicate 128 (.w64 0#64))),.ro⟩]
 read:=c58a_rd
 args:=fun ⟨_,_,_⟩=>[(.ptr 0 (.c 0)),(.ptr 1 (.c 0)),(.ptr 2 (.c 0)),(.bool (.c false))]
 heap:=fun ⟨u,x,y⟩=>[⟨(.gen (c64v u 128)),.own⟩,⟨(.gen (c64v x 128)),.own⟩,⟨(.gen (c64v y 128)),.ro⟩]
 out:=fun ⟨_,x,y⟩=>[⟨(.gen (c64v (pbV x y) 128)),.own⟩,⟨(.gen (c64v x 128)),.own⟩,⟨(.gen (c64v y 128)),.ro⟩]
 val:=fun ⟨_,_,_⟩=>(.tup [])
 good:=fun ⟨_,_,_⟩=>decide (True)
theorem c58a_run (u x y:Vec 64):endsAs (c58a.heap ⟨u,x,y⟩).length (some [0,1,2]) (c58a.out ⟨u,x,y⟩) (c58a.val ⟨u,x,y⟩) (goB specs58 noLoop 58 (c58a.args ⟨u,x,y⟩) ⟨c58a.heap ⟨u,x,y⟩,big,[],[]⟩) = some ((c58a.out ⟨u,x,y⟩),(c58a.val ⟨u,x,y⟩),(List.range 128).reverse.map (fun i=>decide (i < (foldS ixS (xorV x y)).n)) ++ (List.range 16).map (fun k=>inB (ixS.getD (15 - k) []) (foldS (ixS.take (15 - k)) (xorV x y)))):=by kernel_rfl
set_option maxRecDepth 100000 in
theorem c58a_read (a:List AV) (K:List Blk) (d:c58aD) (h:c58a.read a K = some d):a = c58a.args d ∧ K = c58a.heap d:=by
 replace h:c58a_rd a K = some d:=h
 unfold c58a_rd at h
 split at h
 case h_2=>cases h
 split at h
 case h_2=>cases h
 split at h
 case h_2=>cases h
 rename_i hr0
 obtain ⟨rfl,_⟩:=rd64_eq hr0
 split at h
 case h_2=>cases h
 rename_i hr1
 obtain ⟨rfl,_⟩:=rd64_eq hr1
 split at h
 case h_2=>cases h
 rename_i hr2
 obtain ⟨rfl,_⟩:=rd64_eq hr2
 injection h with h;subst h
 exact ⟨rfl,rfl⟩
theorem c58a_ok:SpecOk Tryd.prog noGlob 58 c58a.spec:=by
 refine c58a.ok (goB_ok specs58_ok (no_loops _)) c58a_read ?_
 rintro ⟨u,x,y⟩ hg
 have hg:True:=of_decide_eq_true hg
 refine ⟨[],(some [0,1,2]),_,c58a_run u x y,?_⟩
 exact cnd_ok x y
structure c58bD where
 x:Vec 64
 y:Vec 64
def c58b_rd (a:List AV) (K:List Blk):Option c58bD:=
 match a with
 | [(.ref (.ptr 0 (.c 0))),(.ref (.ptr 0 (.c 0))),(.ref (.ptr 1 (.c 0))),(.atom (.bool (.c false)))]=>
  match K with
  | [⟨(.gen xs_x),.own⟩,⟨(.gen xs_y),.ro⟩]=>
   (match rd64 128 xs_x with
   | some x=>
   (match rd64 128 xs_y with
   | some y=>some ⟨x,y⟩
   | none=>none)
   | none=>none)
  | _=>none
 | _=>none
def c58b:Ct c58bD where
 pat:=[(.ptr 0 (.c 0)),(.ptr 0 (.c 0)),(.ptr 1 (.c 0)),(.bool (.c false))]
 patH:=[⟨(.gen (List.replicate 128 (.w64 0#64))),.own⟩,⟨(.gen (List.replicate 128 (.w64 0#64))),.ro⟩]
 read:=c58b_rd
 args:=fun ⟨_,_⟩=>[(.ptr 0 (.c 0)),(.ptr 0 (.c 0)),(.ptr 1 (.c 0)),(.bool (.c false))]
 heap:=fun ⟨x,y⟩=>[⟨(.gen (c64v x 128)),.own⟩,⟨(.gen (c64v y 128)),.ro⟩]
 out:=fun ⟨x,y⟩=>[⟨(.gen (c64v (pbV x y) 128)),.own⟩,⟨(.gen (c64v y 128)),.ro⟩]
 val:=fun ⟨_,_⟩=>(.tup [])
 good:=fun ⟨_,_⟩=>decide (True)
theorem c58b_run (x y:Vec 64):endsAs (c58b.heap ⟨x,y⟩).length (some [0,1]) (c58b.out ⟨x,y⟩) (c58b.val ⟨x,y⟩) (goB specs58 noLoop 58 (c58b.args ⟨x,y⟩) ⟨c58b.heap ⟨x,y⟩,big,[],[]⟩) = some ((c58b.out ⟨x,y⟩),(c58b.val ⟨x,y⟩),(List.range 128).reverse.map (fun i=>decide (i < (foldS ixS (xorV x y)).n)) ++ (List.range 16).map (fun k=>inB (ixS.getD (15 - k) []) (foldS (ixS.take (15 - k)) (xorV x y)))):=by kernel_rfl
set_option maxRecDepth 100000 in
theorem c58b_read (a:List AV) (K:List Blk) (d:c58bD) (h:c58b.read a K = some d):a = c58b.args d ∧ K = c58b.heap d:=by
 replace h:c58b_rd a K = some d:=h
 unfold c58b_rd at h
 split at h
 case h_2=>cases h
 split at h
 case h_2=>cases h
 split at h
 case h_2=>cases h
 rename_i hr0
 obtain ⟨rfl,_⟩:=rd64_eq hr0
 split at h
 case h_2=>cases h
 rename_i hr1
 obtain ⟨rfl,_⟩:=rd64_eq hr1
 injection h with h;subst h
 exact ⟨rfl,rfl⟩
theorem c58b_ok:SpecOk Tryd.prog noGlob 58 c58b.spec:=by
 refine c58b.ok (goB_ok specs58_ok (no_loops _)) c58b_read ?_
 rintro ⟨x,y⟩ hg
 have hg:True:=of_decide_eq_true hg
 refine ⟨[],(some [0,1]),_,c58b_run x y,?_⟩
 exact cnd_ok x y
end
end Go.Proofs.YtineimjmnbjdlaaDoor

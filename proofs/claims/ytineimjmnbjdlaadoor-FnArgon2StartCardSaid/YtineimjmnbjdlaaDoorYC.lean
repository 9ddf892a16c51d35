/- An interpreter of the model's code over abstract values, proved sound, and a walk in company by it: part of the proof of FnArgon2Start. No condition. -/
import Derived.Test.YtineimjmnbjdlaaDoorYB
import Derived.ChangeKeysEq
set_option linter.unusedVariables false
set_option linter.unusedSectionVars false
set_option linter.unusedSimpArgs false
namespace Go.Eng
section
variable [RowAddr] [Co]
section
variable {P:Program} {G:Nat → Option (List AV)} {β:Map} {w:World}
theorem zeroRow_spec {t:TypeId} {l:List AV} (h:zeroRow P t = some l) (β:Map):∃ i z,P.info? t = some i ∧ i.zero = some z ∧ LRel β l z.cells.toList ∧ l.length = i.size ∧ z.cells.size = i.size:=by
 unfold zeroRow at h
 cases hi:P.info? t with
 | none=>simp [hi] at h
 | some i=>
  simp only [hi] at h
  cases hz:i.zero with
  | none=>simp [hz] at h
  | some z=>
   simp only [hz] at h
   cases hr:(absV z).row with
   | none=>simp [hr] at h
   | some l'=>
    simp only [hr] at h
    cases hb:Nat.beq l'.length i.size <;> simp [hb] at h
    subst h
    have hl:=row_spec hr (absV_rel β z)
    have e:l'.length = i.size:=by simpa using hb
    exact ⟨i,z,rfl,hz,hl,e,by rw [← e,hl.1];simp⟩
theorem madeCells_rel {l:List AV} {z:Array Value} (h:LRel β l z.toList) (n:Nat):LRel β (List.replicate n l).flatten (madeCells z (n * z.size)).toList:=by
 have e:(madeCells z (n * z.size)).toList = (List.replicate n z.toList).flatten:=by
  have hz:z.size = z.toList.length:=by simp
  simp only [madeCells,Array.toList_map,Array.toList_range]
  apply List.ext_getElem?
  intro j
  rcases Nat.eq_zero_or_pos z.size with h0 | h0
  ·have:z.toList = []:=List.eq_nil_of_length_eq_zero (by simpa using h0)
   simp [h0,this]
  ·induction n generalizing j with
   | zero=>simp
   | succ n ih=>
    rw [List.replicate_succ,List.flatten_cons]
    rcases Nat.lt_or_ge j z.size with hj | hj
    ·rw [List.getElem?_append_left (by simpa using hj)]
     have:j < (n + 1) * z.size:=by rw [Nat.add_mul];omega
     simp [this,hj,Nat.mod_eq_of_lt hj]
    ·have hn:LRel β (List.replicate n l).flatten ((List.replicate n z.toList).flatten):=h.replicate n
     rw [List.getElem?_append_right (by simpa using hj)]
     have:=ih (j:=j - z.size)
     simp only [Array.length_toList] at this ⊢
     rw [← this]
     rcases Nat.lt_or_ge j ((n + 1) * z.size) with h1 | h1
     ·have h2:j - z.size < n * z.size:=by rw [Nat.add_mul] at h1;omega
      simp only [List.getElem?_map,List.getElem?_range h1,List.getElem?_range h2,Option.map_some]
      rw [Nat.mod_eq_sub_mod hj]
     ·have h2:n * z.size ≤ j - z.size:=by rw [Nat.add_mul] at h1;omega
      rw [List.getElem?_eq_none (by simpa using h1),List.getElem?_eq_none (by simpa using h2)]
 rw [e];exact h.replicate n
theorem new_gen {S:St} (hH:HRel G β S.H w) {l:List AV} {vs:List Value} (t:TypeId) (hl:LRel β l vs) (hmi:Co.mine w.heap.size) :
 HRel G (β.put S.H.length ⟨w.heap.size,0,vs.length⟩) (S.new (.gen l)).2.H (w.alloc (.cells ⟨vs⟩ t)) ∧
 Stp β S.H w (β.put S.H.length ⟨w.heap.size,0,vs.length⟩) (S.new (.gen l)).2.H (w.alloc (.cells ⟨vs⟩ t)):=
 hH.new (.gen l) vs t (by simp [Data.len,hl.1]) (by simp only [Data.len,Data.list];rw [hl.1,List.take_length];exact hl) hmi
theorem allocE_spec {C:Cfg} (hG:C.glob = G) {t:TypeId} {x:AV} {S S':St} (h:allocE C t S = some (x,S')) (hH:HRel G β S.H w) :
 (S'.ok → S.ok) ∧ Does C.P G β S w (Instr.alloc t true (.tuple #[])) x S':=by
 unfold allocE at h
 cases hz:zeroRow C.P t with
 | none=>simp [hz] at h
 | some l=>
  simp only [hz,Option.some.injEq,Prod.mk.injEq] at h
  obtain ⟨rfl,rfl⟩:=h
  obtain ⟨i,z,hi,hz',hl,e1,e2⟩:=zeroRow_spec hz β
  refine ⟨fun o=>o,?_⟩
  refine ⟨.pointer (some (at' w.heap.size 0)),w.alloc (.cells z.cells t),?_,far_alloc _ _,fun hn=>⟨_,?_,new_gen hH t hl (new_alloc hn)⟩⟩
  ·simp [Instr.alloc,zeroValue,typeInfo,hi,hz',newVar,newRow,at']
  ·exact .ptr _ _ _ (Map.put_same ..)
theorem boxE_spec {t:TypeId} {x y:AV} {v:Value} {S S':St} (h:boxE x S = some (y,S')) (hx:VRel β x v) (hH:HRel G β S.H w) :
 (S'.ok → S.ok) ∧ Does P G β S w (Instr.box t v) y S':=by
 unfold boxE at h
 cases hr:x.row with
 | none=>simp [hr] at h
 | some l=>
  simp only [hr,Option.some.injEq,Prod.mk.injEq] at h
  obtain ⟨rfl,rfl⟩:=h
  have hl:=row_spec hr hx
  refine ⟨fun o=>o,?_⟩
  refine ⟨.pointer (some (at' w.heap.size 0)),w.alloc (.cells v.cells t),?_,far_alloc _ _,fun hn=>⟨_,?_,new_gen hH t hl (new_alloc hn)⟩⟩
  ·simp [Instr.box,newVar,newRow,at']
  ·exact .ptr _ _ _ (Map.put_same ..)
theorem zeroData_spec {e:TypeId} {n:N} {d:Data} (h:zeroData P e n = some d) (β:Map):∃ i z,P.info? e = some i ∧ i.zero = some z ∧ d.len = n.v * i.size ∧ LRel β d.list (madeCells z.cells (n.v * i.size)).toList:=by
 cases n with
 | c n=>
  simp only [zeroData] at h
  cases hz:zeroRow P e with
  | none=>simp [hz] at h
  | some l=>
   simp only [hz,Option.some.injEq] at h
   subst h
   obtain ⟨i,z,hi,hz',hl,e1,e2⟩:=zeroRow_spec hz β
   refine ⟨i,z,hi,hz',?_,?_⟩
   ·simp [Data.len,e1,N.v]
   ·have:=madeCells_rel hl n
    rw [e2] at this
    exact this
 | s n=>
  simp only [zeroData] at h
  split at h
  case h_2=>cases h
  rename_i z0 hz
  obtain ⟨i,z,hi,hz',hl,e1,e2⟩:=zeroRow_spec hz β
  split at h
  case h_2=>cases h
  rename_i k z1
  split at h
  ·cases h
  rename_i hz0
  rw [intEq_eq] at hz0
  have hz0:z1 = 0:=by simpa using hz0
  subst hz0
  have hs:i.size = 1:=by simpa using e1.symm
  obtain ⟨v,vs,hv,hv1,hv2⟩:=hl.cons_inv
  have hv2:=hv2.nil_inv;subst hv2
  have hv1:=hv1.num_inv
  have hzc:z.cells = #[v]:=by
   apply Array.ext';exact hv
  refine ⟨i,z,hi,hz',?_,?_⟩
  ·rw [hs];cases k <;> simp at h <;> subst h <;> simp [Data.len,N.v,Vec.zero]
  ·rw [hs,hzc,Nat.mul_one,toList_madeCells_one,hv1]
   cases k <;> simp at h <;> subst h <;> refine ⟨by simp [Data.list,N.v,Vec.zero],fun j x u hx hu=>?_⟩ <;>
    simp only [Data.list,Vec.zero,List.getElem?_map,List.getElem?_replicate,N.v] at hx hu <;> split at hu <;> simp_all <;> subst hx hu <;> first | exact .num (.w8 0#8) | exact .num (.w32 0#32) | exact .num (.w64 0#64)
theorem new_data {S:St} (hH:HRel G β S.H w) {d:Data} {vs:List Value} (t:TypeId) (hl:LRel β d.list vs) (hmi:Co.mine w.heap.size) :
 HRel G (β.put S.H.length ⟨w.heap.size,0,vs.length⟩) (S.new d).2.H (w.alloc (.cells ⟨vs⟩ t)) ∧
 Stp β S.H w (β.put S.H.length ⟨w.heap.size,0,vs.length⟩) (S.new d).2.H (w.alloc (.cells ⟨vs⟩ t)):=by
 have e:d.len = vs.length:=by rw [← Data.list_len,hl.1]
 exact hH.new d vs t (by omega) (by rw [e,List.take_length];exact hl) hmi
theorem runQ_make (P:Program) (w:World) (t e:TypeId) (i:TypeInfo) (z:Value) (ht:P.underlying t = some (.slice e)) (hi:P.info? e = some i) (hz:i.zero = some z)
 (kl kc:IntKind) (l c:Int) (h0:0 ≤ l) (hlc:l ≤ c) (hbytes:(i.bytes:Int) * c ≤ 281474976710656) (h63:c ≤ 9223372036854775807) :
 (Instr.makeSlice t (.int kl l) (.int kc c)).runQ P w = .ok (.slice (some ⟨w.heap.size,0,none⟩) l.toNat c.toNat) (w.alloc (.cells (madeCells z.cells (c.toNat * i.size)) e)):=by
 have wl:IntKind.i64.wrap l = l:=by rw [IntKind.wrap_i64];omega
 have wc:IntKind.i64.wrap c = c:=by rw [IntKind.wrap_i64];omega
 have n1:¬ c < 0:=by omega
 have n2:¬ (281474976710656 < (i.bytes:Int) * c):=by omega
 have n3:¬ l < 0:=by omega
 have n4:¬ c < l:=by omega
 by_cases hn:c.toNat * i.size = 0
 ·simp [Instr.makeSlice,runQ_underlying ht,asInt,asIntOf,typeInfo,hi,sizeOf,wl,wc,n1,n2,n3,n4,hn,newRow,madeCells,Array.range_zero']
 ·simp [Instr.makeSlice,runQ_underlying ht,asInt,asIntOf,typeInfo,hi,sizeOf,zeroValue,hz,wl,wc,n1,n2,n3,n4,hn,newRow,madeCells]
theorem makeSliceOp_run {t:TypeId} {l c x:AV} {vl vc:Value} {S S':St} (h:makeSliceOp P t l c S = some (x,S')) (hl:VRel β l vl) (hc:VRel β c vc) :
 ∃ S2 d n cp,Pure S S2 ∧ S' = (S2.new d).2 ∧ x = .ref (.sl S2.H.length (.c 0) n (some cp)) ∧ (S'.ok → ∃ vs e,(∀ β',LRel β' d.list vs) ∧ (∀ w:World,(Instr.makeSlice t vl vc).runQ P w = .ok (.slice (some (at' w.heap.size 0)) n.v cp.v) (w.alloc (.cells ⟨vs⟩ e))) ∧ n.v ≤ cp.v ∧ cp.v ≤ vs.length):=by
 unfold makeSliceOp at h
 split at h
 case h_2=>cases h
 rename_i e hu
 cases hi:P.info? e with
 | none=>simp [hi] at h
 | some i=>
  simp only [hi] at h
  split at h
  ·cases h
  rename_i hs0
  cases hnl:l.nm with
  | none=>simp [hnl] at h
  | some zl=>
   cases hnc:c.nm with
   | none=>simp [hnl,hnc] at h
   | some zc=>
    simp only [hnl,hnc] at h
    obtain ⟨kl,rfl⟩:=AV.nm_spec hnl hl
    obtain ⟨kc,rfl⟩:=AV.nm_spec hnc hc
    cases hc1:(ordered zl zc (.c 1099511627776)).claim S with
    | none=>simp [hc1] at h
    | some S1=>
     simp only [hc1] at h
     obtain ⟨hp1,hv1⟩:=ordered_spec hc1
     cases hc2:(zc.toN.mulc i.bytes).fits.claim S1 with
     | none=>simp [hc2] at h
     | some S2=>
      simp only [hc2] at h
      obtain ⟨hp2,hv2⟩:=B.claim_spec hc2
      cases hz:zeroData P e zc.toN with
      | none=>simp [hz] at h
      | some d=>
       simp only [hz,Option.some.injEq,Prod.mk.injEq] at h
       obtain ⟨rfl,rfl⟩:=h
       have hp:=hp1.trans hp2
       refine ⟨S2,d,zl.toN,zc.toN,hp,rfl,rfl,fun ok=>?_⟩
       have ok2:S2.ok:=ok
       obtain ⟨o1,o2,o3⟩:=hv1 (hp2.ok ok2)
       have hf:=hv2 ok2
       rw [N.fits,N.le_v,N.mulc_v,Z.toN_v] at hf
       have hf:=of_decide_eq_true hf
       simp only [N.v] at hf
       have o3:zc.v ≤ 1099511627776:=o3
       obtain ⟨i',z,hi',hz',hlen,hrel⟩:=zeroData_spec hz β
       rw [hi] at hi';injection hi' with hi';subst hi'
       have ezc:(zc.v.toNat:Int) = zc.v:=Int.toNat_of_nonneg (by omega)
       have hb:(i.bytes:Int) * zc.v ≤ 281474976710656:=by
        have:(i.bytes:Int) * zc.v = ((zc.v.toNat * i.bytes:Nat):Int):=by
         rw [Nat.mul_comm];push_cast;rw [ezc]
        omega
       rw [Z.toN_v] at hrel hlen
       have hs0':i.size ≠ 0:=by intro e;rw [e] at hs0;cases hs0
       refine ⟨(madeCells z.cells (zc.v.toNat * i.size)).toList,e,fun β'=>?_,fun w=>?_,?_,?_⟩
       ·obtain ⟨i',z',hi',hz'',_,hrel'⟩:=zeroData_spec hz β'
        rw [hi] at hi';injection hi' with hi';subst hi'
        rw [hz'] at hz'';injection hz'' with hz'';subst hz''
        rw [Z.toN_v] at hrel';exact hrel'
       ·rw [Z.toN_v,Z.toN_v]
        exact runQ_make P w t e i z hu hi hz' kl kc zl.v zc.v o1 o2 hb (by omega)
       ·rw [Z.toN_v,Z.toN_v];exact Int.toNat_le_toNat o2
       ·rw [Z.toN_v,Array.length_toList,size_madeCells]
        exact Nat.le_mul_of_pos_right _ (by omega)
theorem makeSliceOp_spec {t:TypeId} {l c x:AV} {vl vc:Value} {S S':St} (h:makeSliceOp P t l c S = some (x,S')) (hl:VRel β l vl) (hc:VRel β c vc) (hH:HRel G β S.H w) :
 (S'.ok → S.ok) ∧ (S'.ok → Does P G β S w (Instr.makeSlice t vl vc) x S'):=by
 obtain ⟨S2,d,n,cp,hp,rfl,rfl,hx⟩:=makeSliceOp_run h hl hc
 refine ⟨hp.ok,fun ok=>?_⟩
 obtain ⟨vs,e,h1,h2,h3,h4⟩:=hx ok
 have hHS:HRel G β S2.H w:=by rw [hp.H];exact hH
 refine ⟨_,_,h2 w,far_alloc _ _,fun hn=>?_⟩
 obtain ⟨g1,g2⟩:=new_data (S:=S2) hHS (d:=d) e (h1 β) (new_alloc hn)
 refine ⟨_,?_,g1,by rw [hp.H] at g2 ⊢;exact g2⟩
 exact .sl _ (.c 0) n (some cp) (some (at' w.heap.size 0)) cp.v h3 (fun C hC=>by injection hC with hC;subst hC;rfl)
  (.inr ⟨_,Map.put_same ..,rfl,by show (0:Nat) + cp.v ≤ vs.length;omega⟩)
end
end
section
variable [RowAddr] [Co]
section
variable {P:Program} {G:Nat → Option (List AV)} {β:Map} {w:World}
theorem Data.sub0_spec {d d':Data} {o n:N} {S S':St} (h:d.sub0 o n S = some (d',S')) :
 Pure S S' ∧ (S'.ok → o.v + n.v ≤ d.len ∧ d'.len = n.v ∧ d'.list = (d.list.drop o.v).take n.v):=by
 cases d with
 | gen l=>
  cases o with
  | s _=>simp [Data.sub0] at h
  | c o=>
   cases n with
   | s _=>simp [Data.sub0] at h
   | c n=>
    simp only [Data.sub0,Option.map_eq_some_iff,Prod.mk.injEq] at h
    obtain ⟨r,hr,rfl,rfl⟩:=h
    obtain ⟨h1,rfl⟩:=lsub_eq _ _ _ _ hr
    exact ⟨Pure.refl _,fun _=>⟨h1,by simp [Data.len,N.v];omega,rfl⟩⟩
 | b8 l=>
  simp only [Data.sub0,Option.some.injEq,Prod.mk.injEq] at h
  obtain ⟨rfl,rfl⟩:=h
  refine ⟨demand_pure _ _,fun ok=>?_⟩
  have hd:=of_decide_eq_true (demand_ok ok)
  exact ⟨hd,rfl,by simp [Data.list,Vec.sub_l hd,List.map_take,List.map_drop]⟩
 | b32 l=>
  simp only [Data.sub0,Option.some.injEq,Prod.mk.injEq] at h
  obtain ⟨rfl,rfl⟩:=h
  refine ⟨demand_pure _ _,fun ok=>?_⟩
  have hd:=of_decide_eq_true (demand_ok ok)
  exact ⟨hd,rfl,by simp [Data.list,Vec.sub_l hd,List.map_take,List.map_drop]⟩
 | b64 l=>
  simp only [Data.sub0,Option.some.injEq,Prod.mk.injEq] at h
  obtain ⟨rfl,rfl⟩:=h
  refine ⟨demand_pure _ _,fun ok=>?_⟩
  have hd:=of_decide_eq_true (demand_ok ok)
  exact ⟨hd,rfl,by simp [Data.list,Vec.sub_l hd,List.map_take,List.map_drop]⟩
 | spot _ _ _=>simp [Data.sub0] at h
 | kn _ _=>simp [Data.sub0] at h
theorem Data.sub1_spec {d d':Data} {o n:N} {S S':St} (h:d.sub1 o n S = some (d',S')) :
 Pure S S' ∧ (S'.ok → o.v + n.v ≤ d.len ∧ d'.len = n.v ∧ ∀ (β:Map) vs,LRel β ((d.list.drop o.v).take n.v) vs → LRel β d'.list vs):=by
 unfold Data.sub1 at h
 split at h
 ·rename_i m hm
  simp only [Option.some.injEq,Prod.mk.injEq] at h
  obtain ⟨rfl,rfl⟩:=h
  refine ⟨demand_pure _ _,fun ok=>?_⟩
  have hd:=of_decide_eq_true (demand_ok ok)
  have hr:=m.row.h
  have hl:=mid_len hm
  refine ⟨by omega,rfl,fun β vs hv=>?_⟩
  have e:(m.row.sub (o.v - m.pre.length) n.v).l = (m.row.l.drop (o.v - m.pre.length)).take n.v:=Vec.sub_l (by omega)
  show LRel β ((m.row.sub (o.v - m.pre.length) n.v).l.map .w8) vs
  rw [e]
  refine ⟨?_,fun i x v hx hv'=>?_⟩
  ·rw [← hv.1,List.length_map,List.length_take,List.length_take,List.length_drop,List.length_drop,Data.list_len];omega
  ·rw [List.getElem?_map,Option.map_eq_some_iff] at hx
   obtain ⟨y,hy,rfl⟩:=hx
   rw [List.getElem?_take] at hy
   split at hy
   ·rename_i hi
    rw [List.getElem?_drop] at hy
    obtain ⟨z,h3,h4⟩:=mid_at hm hy
    refine h4 β v (hv.2 i z v ?_ hv')
    rw [List.getElem?_take,if_pos hi,List.getElem?_drop,Data.list_at,show o.v + i = m.pre.length + (o.v - m.pre.length + i) by omega];exact h3
   ·cases hy
 ·cases h
theorem Data.sub_spec {d d':Data} {o n:N} {S S':St} (h:d.sub o n S = some (d',S')) :
 Pure S S' ∧ (S'.ok → o.v + n.v ≤ d.len ∧ d'.len = n.v ∧ ∀ (β:Map) vs,LRel β ((d.list.drop o.v).take n.v) vs → LRel β d'.list vs):=by
 unfold Data.sub at h
 split at h
 ·rename_i r hr
  injection h with h;subst h
  obtain ⟨h1,h2⟩:=Data.sub0_spec hr
  refine ⟨h1,fun ok=>?_⟩
  obtain ⟨g1,g2,g3⟩:=h2 ok
  exact ⟨g1,g2,fun β vs hv=>by rw [g3];exact hv⟩
 ·split at h
  ·rename_i d2 hd
   obtain ⟨h1,h2⟩:=Data.sub0_spec h
   refine ⟨h1,fun ok=>?_⟩
   obtain ⟨g1,g2,g3⟩:=h2 ok
   have hl:=words_len hd
   refine ⟨by omega,g2,fun β vs hv=>?_⟩
   rw [g3]
   refine ⟨?_,fun i x v hx hv'=>?_⟩
   ·rw [← hv.1,List.length_take,List.length_take,List.length_drop,List.length_drop,Data.list_len,Data.list_len,hl]
   ·rw [List.getElem?_take] at hx
    split at hx
    ·rename_i hi
     rw [List.getElem?_drop,Data.list_at] at hx
     obtain ⟨y,h3,h4⟩:=words_at hd hx
     refine h4 β v (hv.2 i y v ?_ hv')
     rw [List.getElem?_take,if_pos hi,List.getElem?_drop,Data.list_at];exact h3
    ·cases hx
  ·exact Data.sub1_spec h
theorem block_cells {H:List Blk} {b:Nat} {d:Data} {m:Mode} {L:Loc} (hH:HRel G β H w) (hb:H[b]? = some ⟨d,m⟩) (hm:m.alive) (hL:β b = some L) {o n:Nat} (hn:o + n ≤ d.len) :
 ∃ vs:List Value,vs.length = n ∧ LRel β ((d.list.drop o).take n) vs ∧ (∀ (j:Nat) v,vs[j]? = some v → w.cell? ((at' L.c (L.base + o)).add j) = some v) ∧ ∀ j,j < n → May ((at' L.c (L.base + o)).add j) false:=by
 refine ⟨(List.range n).map fun j=>(w.cell? (at' L.c (L.base + (o + j)))).getD undef,by simp,⟨?_,?_⟩,?_,fun j hj=>?_⟩
 ·simp [Data.list_len];omega
 ·intro j x v hx hv
  rcases Nat.lt_or_ge j n with hj | hj
  ·simp only [List.getElem?_take,hj,if_true,List.getElem?_drop,Data.list_at] at hx
   rcases hH.blk b _ hb hm with ⟨L',hL',hbr⟩ | ⟨_,hno⟩
   ·rw [hL] at hL';injection hL' with e;subst e
    obtain ⟨u,hu,hxu,_⟩:=hbr.cell hm hx
    simp [hj,hu] at hv
    subst hv;exact hxu
   ·rw [hL] at hno;cases hno
  ·rw [List.getElem?_eq_none (by simpa using hj)] at hv;cases hv
 ·intro j v hv
  rcases Nat.lt_or_ge j n with hj | hj
  ·have hx:d.at (o + j) = some (d.list[o + j]'(by rw [Data.list_len];omega)):=by rw [← Data.list_at];simp
   rcases hH.blk b _ hb hm with ⟨L',hL',hbr⟩ | ⟨_,hno⟩
   ·rw [hL] at hL';injection hL' with e;subst e
    obtain ⟨u,hu,_⟩:=hbr.cell hm hx
    simp [hj,hu] at hv
    rw [add_at,Nat.add_assoc,hu,hv]
   ·rw [hL] at hno;cases hno
  ·rw [List.getElem?_eq_none (by simpa using hj)] at hv;cases hv
 ·have hx:d.at (o + j) = some (d.list[o + j]'(by rw [Data.list_len];omega)):=by rw [← Data.list_at];simp
  rcases hH.blk b _ hb hm with ⟨L',hL',hbr⟩ | ⟨_,hno⟩
  ·rw [hL] at hL';injection hL' with e;subst e
   obtain ⟨u,hu,_,hmay⟩:=hbr.cell hm hx
   rw [add_at,Nat.add_assoc];exact hmay
  ·rw [hL] at hno;cases hno
theorem dataOf_spec {x:AV} {vx:Value} {n l:N} {S S':St} {xs:Data} (h:dataOf x n S = some (xs,S')) (hx:VRel β x vx) (hl:lenN x = some l) (hn:n.v ≤ l.v) (hH:HRel G β S.H w) :
 Pure S S' ∧ (S'.ok → xs.len = n.v ∧ ∃ vs:List Value,vs.length = n.v ∧ LRel β xs.list vs ∧
  ∀ w':World,(∀ a,w'.cell? a = w.cell? a) → (Builtin.firstCells 1 n.v vx).runQ P w' = .ok ⟨vs⟩ w'):=by
 unfold dataOf at h
 split at h
 ·rename_i b o _ _
  cases hr:S.read b with
  | none=>simp [hr] at h
  | some d=>
   simp only [hr] at h
   obtain ⟨hp,hs⟩:=Data.sub_spec h
   refine ⟨hp,fun ok=>?_⟩
   obtain ⟨h1,h2,h3⟩:=hs ok
   obtain ⟨a,cp,rfl,g1,g2,g3⟩:=hx.sl_inv
   obtain ⟨m,hb,hm⟩:=St.read_spec hr
   simp only [lenN,Option.some.injEq] at hl
   subst hl
   refine ⟨h2,?_⟩
   rcases g3 with g3 | ⟨L,hL,rfl,g4⟩
   ·have hn0:n.v = 0:=by omega
    refine ⟨[],by simp [hn0],?_,fun w' _=>?_⟩
    ·exact h3 _ _ (by rw [hn0];exact LRel.nil β)
    ·rw [hn0]
     cases a with
     | none=>exact runQ_firstCells_none P w' 1 0 _ _
     | some a=>exact runQ_firstCells_some P w' 1 0 a _ _ [] (by simp) (fun j v hv=>by simp at hv) (fun j hj=>absurd hj (Nat.not_lt_zero _))
   ·obtain ⟨vs,v1,v2,v3,v4⟩:=block_cells hH hb hm hL h1
    exact ⟨vs,v1,h3 _ _ v2,fun w' hw=>runQ_firstCells_some P w' 1 n.v _ _ _ vs (by omega) (fun j v hv=>by rw [hw];exact v3 j v hv) (by rw [v1];exact v4)⟩
 ·obtain ⟨rfl,rfl⟩:_ ∧ _:=by simpa using h
  simp only [lenN,Option.some.injEq] at hl
  subst hl
  have hn0:n.v = 0:=by simpa [N.v] using hn
  cases hx
  refine ⟨Pure.refl _,fun _=>⟨by simp [Data.len,hn0],[],by simp [hn0],LRel.nil β,fun w' _=>?_⟩⟩
  rw [hn0];exact runQ_firstCells_none P w' 1 0 _ _
 ·rename_i s
  cases n with
  | s _=>simp at h
  | c n=>
   simp only [Option.some.injEq,Prod.mk.injEq] at h
   obtain ⟨rfl,rfl⟩:=h
   simp only [lenN,Option.some.injEq] at hl
   subst hl
   cases hx
   have hns:n ≤ s.data.toList.length:=by simpa [N.v] using hn
   refine ⟨Pure.refl _,fun _=>⟨by simp only [Data.len,N.v,List.length_map,List.length_take];omega,(s.data.toList.take n).map (fun b=>.int .u8 b.toNat),by simp only [List.length_map,List.length_take,N.v];omega,⟨by simp [Data.list],?_⟩,?_⟩⟩
   ·intro j x v hx hv
    simp only [Data.list,List.getElem?_map,Option.map_eq_some_iff] at hx hv
    obtain ⟨y,hy,rfl⟩:=hx
    obtain ⟨z,hz,rfl⟩:=hv
    rw [hy] at hz;injection hz with hz;subst hz
    exact .num (.int .u8 (.c y.toNat))
   ·intro w' _
    simp only [Builtin.firstCells,Sem.runQ_pure,N.v]
    congr 1
    apply Array.ext'
    simp [ByteArray.data_extract]
 ·cases h
theorem singles_spec {d:Data} {vs:List Value} (h:d.singles = true) (hv:LRel β d.list vs):∀ v ∈ vs,v.oneCell' = true:=by
 cases d with
 | gen l=>exact allSingle_spec h hv
 | b8 l=>
  intro v hm
  obtain ⟨i,hi⟩:=List.getElem?_of_mem hm
  have hlt:i < (Data.b8 l).list.length:=by rw [hv.1];exact (List.getElem?_eq_some_iff.1 hi).1
  have:=hv.2 i _ v (List.getElem?_eq_getElem hlt) hi
  simp only [Data.list,List.getElem_map] at this
  rw [this.num_inv];rfl
 | b32 l=>
  intro v hm
  obtain ⟨i,hi⟩:=List.getElem?_of_mem hm
  have hlt:i < (Data.b32 l).list.length:=by rw [hv.1];exact (List.getElem?_eq_some_iff.1 hi).1
  have:=hv.2 i _ v (List.getElem?_eq_getElem hlt) hi
  simp only [Data.list,List.getElem_map] at this
  rw [this.num_inv];rfl
 | b64 l=>
  intro v hm
  obtain ⟨i,hi⟩:=List.getElem?_of_mem hm
  have hlt:i < (Data.b64 l).list.length:=by rw [hv.1];exact (List.getElem?_eq_some_iff.1 hi).1
  have:=hv.2 i _ v (List.getElem?_eq_getElem hlt) hi
  simp only [Data.list,List.getElem_map] at this
  rw [this.num_inv];rfl
 | spot _ _ _=>simp [Data.singles] at h
 | kn _ _=>simp [Data.singles] at h
theorem lenN_spec {x:AV} {v:Value} {l:N} (h:lenN x = some l) (hx:VRel β x v) (w:World):(Builtin.lenOf v).runQ P w = .ok l.v w:=by
 unfold lenN at h
 split at h
 ·injection h with h;subst h
  obtain ⟨a,cp,rfl,_⟩:=hx.sl_inv
  simp [Builtin.lenOf]
 ·injection h with h;subst h
  cases hx;simp [Builtin.lenOf,N.v]
 ·injection h with h;subst h
  cases hx;simp [Builtin.lenOf,N.v]
 ·cases h
theorem Data.app_spec {d x r:Data} (h:d.app x = some r):r.len = d.len + x.len ∧ ∀ {β:Map} {vs us:List Value},LRel β d.list vs → LRel β x.list us → LRel β r.list (vs ++ us):=by
 cases d with
 | gen l=>
  cases x with
  | gen xs=>simp [Data.app] at h;subst h;exact ⟨by simp [Data.len],fun hv hu=>hv.append hu⟩
  | b8 xs=>
   simp [Data.app] at h
   obtain ⟨a,ha,rfl⟩:=h
   exact ⟨by simp [Data.len,Vec.app,Vec.of,mapOpt_len ha],fun hv hu=>by simp only [Data.list,Vec.app,Vec.of,List.map_append] at *;exact (mapOpt_rel8 ha hv).append hu⟩
  | b32 xs=>
   simp [Data.app] at h
   obtain ⟨a,ha,rfl⟩:=h
   exact ⟨by simp [Data.len,Vec.app,Vec.of,mapOpt_len ha],fun hv hu=>by simp only [Data.list,Vec.app,Vec.of,List.map_append] at *;exact (mapOpt_rel32 ha hv).append hu⟩
  | b64 xs=>
   simp [Data.app] at h
   obtain ⟨a,ha,rfl⟩:=h
   exact ⟨by simp [Data.len,Vec.app,Vec.of,mapOpt_len ha],fun hv hu=>by simp only [Data.list,Vec.app,Vec.of,List.map_append] at *;exact (mapOpt_rel64 ha hv).append hu⟩
  | spot _ _ _=>simp [Data.app] at h
  | kn _ _=>simp [Data.app] at h
 | b8 l=>
  simp only [Data.app,Option.map_eq_some_iff] at h
  obtain ⟨a,ha,rfl⟩:=h
  exact ⟨by simp [Data.len,Vec.app,as8_len ha],fun hv hu=>by simp only [Data.list,Vec.app,List.map_append] at hv ⊢;exact hv.append (as8_rel ha hu)⟩
 | b32 l=>
  simp only [Data.app,Option.map_eq_some_iff] at h
  obtain ⟨a,ha,rfl⟩:=h
  exact ⟨by simp [Data.len,Vec.app,as32_len ha],fun hv hu=>by simp only [Data.list,Vec.app,List.map_append] at hv ⊢;exact hv.append (as32_rel ha hu)⟩
 | b64 l=>
  simp only [Data.app,Option.map_eq_some_iff] at h
  obtain ⟨a,ha,rfl⟩:=h
  exact ⟨by simp [Data.len,Vec.app,as64_len ha],fun hv hu=>by simp only [Data.list,Vec.app,List.map_append] at hv ⊢;exact hv.append (as64_rel ha hu)⟩
 | spot _ _ _=>simp [Data.app] at h
 | kn l t=>
  cases x with
  | gen xs=>
   simp [Data.app] at h
   subst h
   exact ⟨by simp [Data.len];omega,fun hv hu=>by simp only [Data.list,List.append_assoc] at hv ⊢;rw [← List.append_assoc];exact hv.append hu⟩
  | _=>simp [Data.app] at h
theorem HRel.phantom {H:List Blk} (hH:HRel G β H w) {d:Data} (hd:d.len = 0):HRel G β (H ++ [⟨d,.own⟩]) w ∧ Stp β H w β (H ++ [⟨d,.own⟩]) w:=by
 have hn:=hH.none_at
 have hb:∀ (b:Nat) k,(H ++ [⟨d,.own⟩])[b]? = some k → (b < H.length ∧ H[b]? = some k) ∨ (b = H.length ∧ k = ⟨d,.own⟩):=by
  intro b k hk
  rcases Nat.lt_trichotomy b H.length with h | h | h
  ·rw [List.getElem?_append_left h] at hk;exact .inl ⟨h,hk⟩
  ·subst h;simp at hk;exact .inr ⟨rfl,hk.symm⟩
  ·rw [List.getElem?_append_right (by omega),List.getElem?_eq_none (by simp;omega)] at hk;cases hk
 refine ⟨⟨?_,?_,?_,hH.glob,?_⟩,⟨Map.le_refl β,by simp,rfl,rfl,rfl,Nat.le_refl _,fun _ _ _=>Kp.refl _ _,?_,fun _ _=>rfl⟩⟩
 ·intro b k hk ha
  rcases hb b k hk with ⟨h,hk⟩ | ⟨rfl,rfl⟩
  ·exact hH.blk b k hk ha
  ·exact .inr ⟨hd,hn⟩
 ·intro b b' k k' L L' hne hk hk' ho ha hL hL'
  rcases hb b k hk with ⟨h,hk⟩ | ⟨rfl,rfl⟩
  ·rcases hb b' k' hk' with ⟨h',hk'⟩ | ⟨rfl,rfl⟩
   ·exact hH.dis b b' k k' L L' hne hk hk' ho ha hL hL'
   ·rw [hn] at hL';cases hL'
  ·rw [hn] at hL;cases hL
 ·intro b L hL;have:=hH.dom b L hL;simp;omega
 ·intro b k L hk ho hL
  rcases hb b k hk with ⟨h,hk⟩ | ⟨rfl,rfl⟩
  ·exact hH.apart b k L hk ho hL
  ·rw [hn] at hL;cases hL
 ·intro c hc ⟨b,k,L,hk,ho,hL,hLc⟩
  rcases hb b k hk with ⟨h,hk⟩ | ⟨rfl,rfl⟩
  ·exact ⟨b,k,L,hk,ho,hL,hLc⟩
  ·rw [hn] at hL;cases hL
theorem HRel.move {H:List Blk} (hH:HRel G β H w) {b:Nat} {d d':Data} {L:Loc} (hb:H[b]? = some ⟨d,.own⟩) (hL:β b = some L) (vs':List Value)
 (hl:vs'.length = L.room) (hd:d'.len ≤ L.room) (hr:LRel β d'.list (vs'.take d'.len)) (d0:Data) :
 HRel G (β.put H.length L) (H.set b ⟨d0,.dead⟩ ++ [⟨d',.own⟩]) (w.setRow L.c ⟨vs'⟩) ∧ Stp β H w (β.put H.length L) (H.set b ⟨d0,.dead⟩ ++ [⟨d',.own⟩]) (w.setRow L.c ⟨vs'⟩):=by
 obtain ⟨h1,h2⟩:=hH.write hb hL vs' hl hd hr
 have hblt:b < H.length:=by
  rcases Nat.lt_or_ge b H.length with h | h
  ·exact h
  ·simp [List.getElem?_eq_none h] at hb
 have hle:=Map.put_le (L:=L) hH.none_at
 have hbs:(H.set b ⟨d',.own⟩)[b]? = some ⟨d',.own⟩:=by simp [hblt]
 have hg:∀ (x:Nat) k,(H.set b ⟨d0,.dead⟩ ++ [⟨d',.own⟩])[x]? = some k → k.mode.alive → (x < H.length ∧ x ≠ b ∧ (H.set b ⟨d',.own⟩)[x]? = some k) ∨ (x = H.length ∧ k = ⟨d',.own⟩):=by
  intro x k hk ha
  rcases Nat.lt_trichotomy x H.length with h | h | h
  ·rw [List.getElem?_append_left (by simpa using h)] at hk
   by_cases e:x = b
   ·subst e;rw [List.getElem?_set_self hblt] at hk;injection hk with hk;subst hk;exact absurd rfl ha
   ·rw [List.getElem?_set_ne (Ne.symm e)] at hk
    exact .inl ⟨h,e,by rw [List.getElem?_set_ne (Ne.symm e)];exact hk⟩
  ·subst h
   rw [List.getElem?_append_right (by simp)] at hk
   simp at hk;exact .inr ⟨rfl,hk.symm⟩
  ·rw [List.getElem?_append_right (by simp;omega),List.getElem?_eq_none (by simp;omega)] at hk;cases hk
 refine ⟨⟨?_,?_,?_,h1.glob,?_⟩,⟨hle,by simp,h2.os,h2.tape,h2.output,h2.size,h2.kept,?_,fun b hb=>Map.put_ne (by omega)⟩⟩
 ·intro x k hk ha
  rcases hg x k hk ha with ⟨hx,hxb,hk⟩ | ⟨rfl,rfl⟩
  ·rcases h1.blk x k hk ha with ⟨L',hL',hbr⟩ | ⟨a2,a3⟩
   ·exact .inl ⟨L',hle x L' hL',hbr.mono hle (Nat.le_refl _) (Kp.refl _ _)⟩
   ·exact .inr ⟨a2,by rw [Map.put_ne (by omega)];exact a3⟩
  ·rcases h1.blk b _ hbs (own_alive rfl) with ⟨L',hL',hbr⟩ | ⟨_,hn⟩
   ·rw [hL] at hL';injection hL' with e;subst e
    exact .inl ⟨L,Map.put_same ..,hbr.mono hle (Nat.le_refl _) (Kp.refl _ _)⟩
   ·rw [hL] at hn;cases hn
 ·intro x y k k' L1 L2 hne hk hk' ho ha hL1 hL2
  rcases hg x k hk (own_alive ho) with ⟨hx,hxb,hk⟩ | ⟨rfl,rfl⟩
  ·rw [Map.put_ne (by omega)] at hL1
   rcases hg y k' hk' ha with ⟨hy,hyb,hk'⟩ | ⟨rfl,rfl⟩
   ·rw [Map.put_ne (by omega)] at hL2
    exact h1.dis x y k k' L1 L2 hne hk hk' ho ha hL1 hL2
   ·rw [Map.put_same] at hL2;injection hL2 with e;subst e
    exact h1.dis x b k _ L1 L hxb hk hbs ho (own_alive rfl) hL1 hL
  ·rw [Map.put_same] at hL1;injection hL1 with e;subst e
   rcases hg y k' hk' ha with ⟨hy,hyb,hk'⟩ | ⟨rfl,rfl⟩
   ·rw [Map.put_ne (by omega)] at hL2
    exact h1.dis b y _ k' L L2 (Ne.symm hyb) hbs hk' rfl ha hL hL2
   ·exact absurd rfl hne
 ·intro x L' hL'
  simp only [List.length_append,List.length_set,List.length_cons,List.length_nil]
  by_cases e:x = H.length
  ·omega
  ·rw [Map.put_ne e] at hL';have:=hH.dom x L' hL';omega
 ·intro x k L' hk ho hL'
  rcases hg x k hk (own_alive ho) with ⟨hx,hxb,hk⟩ | ⟨rfl,rfl⟩
  ·rw [Map.put_ne (by omega)] at hL';exact h1.apart x k L' hk ho hL'
  ·rw [Map.put_same] at hL';injection hL' with e;subst e;exact h1.apart b _ L hbs rfl hL
 ·intro c hc ⟨x,k,L',hk,ho,hL',hLc⟩
  refine h2.own c hc ?_
  rcases hg x k hk (own_alive ho) with ⟨hx,hxb,hk⟩ | ⟨rfl,rfl⟩
  ·rw [Map.put_ne (by omega)] at hL';exact ⟨x,k,L',hk,ho,hL',hLc⟩
  ·rw [Map.put_same] at hL';injection hL' with e;subst e;exact ⟨b,_,L,hbs,rfl,hL,hLc⟩
theorem Stp.kill {H:List Blk} (b:Nat) (d:Data):Stp β H w β (H.set b ⟨d,.dead⟩) w:=by
 refine ⟨Map.le_refl β,by simp,rfl,rfl,rfl,Nat.le_refl _,fun _ _ _=>Kp.refl _ _,?_,fun _ _=>rfl⟩
 intro c hc ⟨x,k,L,hk,ho,hL,hLc⟩
 by_cases e:x = b
 ·subst e
  rcases Nat.lt_or_ge x H.length with h | h
  ·rw [List.getElem?_set_self h] at hk;injection hk with hk;subst hk;cases ho
  ·rw [List.getElem?_eq_none (by simpa using h)] at hk;cases hk
 ·rw [List.getElem?_set_ne (Ne.symm e)] at hk;exact ⟨x,k,L,hk,ho,hL,hLc⟩
end
end
section
variable [RowAddr] [Co]
section
variable {P:Program} {G:Nat → Option (List AV)} {β:Map} {w:World}
def notInt (d:TypeDesc):Prop:=(∃ e,d = .slice e) ∨ d = .string
theorem run_append_fit {t u ty e:TypeId} {i:TypeInfo} {d:TypeDesc} {base:Option Addr} {sLen sCap n:Nat} {x:Value} {vs:List Value} {w':World} (ht:P.underlying t = some (.slice e)) (hu:P.underlying u = some d) (hd:notInt d)
 (hi:P.info? e = some i) (hs:i.size = 1) (hlen:∀ w,(Builtin.lenOf x).runQ P w = .ok n w) (hf:(Builtin.firstCells 1 n x).runQ P w = .ok ⟨vs⟩ w) (hfit:sLen + n ≤ sCap)
 (hst:(base = none ∧ w' = w) ∨ ∃ a,base = some a ∧ (storeCells (a.add sLen) vs).runQ P w = .ok () w') :
 (Builtin.append_ #[t,u] ty #[.slice base sLen sCap,x]).runQ P w = .ok (.slice base (sLen + n) sCap) w':=by
 rcases hst with ⟨rfl,rfl⟩ | ⟨a,rfl,hst⟩ <;> rcases hd with ⟨e',rfl⟩ | rfl
 ·simp [Builtin.append_,run_und ht,run_und hu,sizeOf,typeInfo,hi,hs,hlen,hf,hfit]
 ·simp [Builtin.append_,run_und ht,run_und hu,sizeOf,typeInfo,hi,hs,hlen,hf,hfit]
 ·simp [Builtin.append_,run_und ht,run_und hu,sizeOf,typeInfo,hi,hs,hlen,hf,hfit,hst]
 ·simp [Builtin.append_,run_und ht,run_und hu,sizeOf,typeInfo,hi,hs,hlen,hf,hfit,hst]
theorem run_append_more {t u ty e:TypeId} {i:TypeInfo} {z:Value} {d:TypeDesc} {base:Option Addr} {sLen sCap n:Nat} {x:Value} {olds vs:List Value} (ht:P.underlying t = some (.slice e)) (hu:P.underlying u = some d) (hd:notInt d)
 (hi:P.info? e = some i) (hz:i.zero = some z) (hs:i.size = 1) (hlen:∀ w,(Builtin.lenOf x).runQ P w = .ok n w) (hf:(Builtin.firstCells 1 n x).runQ P w.drew = .ok ⟨vs⟩ w.drew)
 (ho:(Builtin.firstCells 1 sLen (.slice base sLen sCap)).runQ P w.drew = .ok ⟨olds⟩ w.drew) (hmore:sCap < sLen + n) (hbytes:(sLen + n) * i.bytes ≤ 1099511627776) (hb0:i.bytes ≠ 0) :
 (Builtin.append_ #[t,u] ty #[.slice base sLen sCap,x]).runQ P w =
  .ok (.slice (some (at' w.heap.size 0)) (sLen + n) (grownCap w (sLen + n) sCap e))
   (w.drew.alloc (.cells ⟨olds ++ vs ++ (Builtin.zeroCells z.cells (grownCap w (sLen + n) sCap e - (sLen + n))).toList⟩ e)):=by
 have h0:¬ (sLen + n ≤ sCap):=by omega
 have hle:sLen + n ≤ (sLen + n) * i.bytes:=Nat.le_mul_of_pos_right _ (by omega)
 have h63:¬ (9223372036854775807 < ((sLen:Int) + (n:Int))):=by omega
 have h48:¬ (281474976710656 < Builtin.nextslicecap (sLen + n) sCap * i.bytes):=by have:=growslice_fits hmore (bytes:=i.bytes) (by omega);omega
 rcases hd with ⟨e',rfl⟩ | rfl
 ·simp [Builtin.append_,run_und ht,run_und hu,sizeOf,typeInfo,zeroValue,hi,hz,hs,hlen,h0,h63,h48,hb0,Question.forced,hf,ho,newRow,grownCap,at']
  congr 2;apply Array.ext';simp
 ·simp [Builtin.append_,run_und ht,run_und hu,sizeOf,typeInfo,zeroValue,hi,hz,hs,hlen,h0,h63,h48,hb0,Question.forced,hf,ho,newRow,grownCap,at']
  congr 2;apply Array.ext';simp
theorem le_grownCap (w:World) (need old:Nat) (e:TypeId):need ≤ grownCap w need old e:=by
 simp [grownCap,Question.cut]
theorem append_core {t u ty e:TypeId} {i:TypeInfo} {z:Value} {d:TypeDesc} {s x:Value} {S S1 S2:St} {b:Nat} {o l:N} {cap:Option N} {n:N} {xs:Data} {r:AV} {us:List Value}
 (ht:P.underlying t = some (.slice e)) (hu:P.underlying u = some d) (hd:notInt d) (hi:P.info? e = some i) (hz:i.zero = some z) (hs:i.size = 1) (hzs:z.cells.size = 1) (hb0:i.bytes ≠ 0)
 (hlen:∀ w,(Builtin.lenOf x).runQ P w = .ok n.v w) (hf:∀ w':World,(∀ a,w'.cell? a = w.cell? a) → (Builtin.firstCells 1 n.v x).runQ P w' = .ok ⟨us⟩ w') (hul:us.length = n.v) (hxl:xs.len = n.v) (hxr:LRel β xs.list us)
 (hone:∀ v ∈ us,v.oneCell' = true) (hsv:VRel β (.ref (.sl b o l cap)) s) (hH:HRel G β S.H w) (hp:Pure S S1) (hbytes:(l.v + n.v) * i.bytes ≤ 1099511627776) (h:appendSl b o l cap n xs S1 = some (r,S2)) :
 (S2.ok → S1.ok) ∧ (S2.ok → Does P G β S w (Builtin.append_ #[t,u] ty #[s,x]) r S2):=by
 obtain ⟨a,cp,rfl,g1,g2,g3⟩:=hsv.sl_inv
 have hH1:HRel G β S1.H w:=by rw [hp.H];exact hH
 have hzc:LRel β [] []:=LRel.nil β
 unfold appendSl at h
 have grow:∀ (dd d':Data) (m:Mode) (H0:List Blk),S1.H[b]? = some ⟨dd,m⟩ → m.alive → o.v + l.v ≤ dd.len → (∀ vs:List Value,LRel β ((dd.list.drop o.v).take l.v) vs → LRel β d'.list (vs ++ us)) → d'.len = l.v + n.v → cp < l.v + n.v →
  HRel G β H0 w → Stp β S1.H w β H0 w → H0.length = S1.H.length → ∀ k:N,k.v = l.v + n.v →
  ∃ v w',(Builtin.append_ #[t,u] ty #[.slice a l.v cp,x]).runQ P w = .ok v w' ∧ Far w w' ∧ (New w w' → ∃ β',VRel β' (.ref (.sl S1.H.length (.c 0) k none)) v ∧ HRel G β' (H0 ++ [⟨d',.own⟩]) w' ∧ Stp β S1.H w β' (H0 ++ [⟨d',.own⟩]) w'):=by
  intro dd d' m H0 hbm hm hol hrel hdl hmore hH0 hS0 hlen0 k hk
  have hold:∃ olds:List Value,olds.length = l.v ∧ LRel β ((dd.list.drop o.v).take l.v) olds ∧ (Builtin.firstCells 1 l.v (.slice a l.v cp)).runQ P w.drew = .ok ⟨olds⟩ w.drew:=by
   rcases g3 with g3 | ⟨L,hL,rfl,g4⟩
   ·have hl0:l.v = 0:=by omega
    refine ⟨[],by simp [hl0],by rw [hl0];exact LRel.nil β,?_⟩
    rw [hl0]
    cases a with
    | none=>exact runQ_firstCells_none P _ 1 0 _ _
    | some a=>exact runQ_firstCells_some P _ 1 0 a _ _ [] (by simp) (fun j v hv=>by simp at hv) (fun j hj=>absurd hj (Nat.not_lt_zero _))
   ·obtain ⟨vs,v1,v2,v3,v4⟩:=block_cells hH1 hbm hm hL hol
    exact ⟨vs,v1,v2,runQ_firstCells_some P _ 1 l.v _ _ _ vs (by omega) (fun j v hv=>v3 j v hv) (by rw [v1];exact v4)⟩
  obtain ⟨olds,e1,e2,e3⟩:=hold
  have hrun:=run_append_more (P:=P) (w:=w) (base:=a) (ty:=ty) ht hu hd hi hz hs hlen (hf w.drew (fun a=>rfl)) e3 hmore hbytes hb0
  have hnew:=hH0.drew.new d' (olds ++ us ++ (Builtin.zeroCells z.cells (grownCap w (l.v + n.v) cp e - (l.v + n.v))).toList) e (by simp;omega) (by
   rw [hdl,List.append_assoc,← List.append_assoc,List.take_append_of_le_length (by simp;omega),List.take_of_length_le (by simp;omega)]
   exact hrel olds e2)
  refine ⟨_,_,hrun,far_alloc_drew _ _,fun hn=>?_⟩
  have hnew:=hnew (new_alloc_drew hn)
  refine ⟨_,?_,hnew.1,(hS0.trans (Stp.drew β H0 w)).trans hnew.2⟩
  have hg:=le_grownCap w (l.v + n.v) cp e
  have hzl:(Builtin.zeroCells z.cells (grownCap w (l.v + n.v) cp e - (l.v + n.v))).toList.length = grownCap w (l.v + n.v) cp e - (l.v + n.v):=by simp [Builtin.zeroCells,hzs]
  have hv:=VRel.sl (β:=β.put H0.length ⟨w.heap.size,0,(olds ++ us ++ (Builtin.zeroCells z.cells (grownCap w (l.v + n.v) cp e - (l.v + n.v))).toList).length⟩) H0.length (.c 0) k none (some (at' w.heap.size 0)) (grownCap w (l.v + n.v) cp e)
   (by rw [hk];exact hg) (fun C hC=>by cases hC) (.inr ⟨_,Map.put_same ..,rfl,by
    show 0 + grownCap w (l.v + n.v) cp e ≤ (olds ++ us ++ _).length
    rw [List.length_append,List.length_append,hzl,e1,hul];omega⟩)
  rw [hk,hlen0] at hv
  rw [← hlen0] at hv ⊢
  exact hv
 cases cap with
 | some C=>
  simp only at h
  split at h
  case h_2=>
   split at h
   ·cases h
   ·rename_i Sq hte
    obtain ⟨hpt,hvt⟩:=B.test_spec hte
    split at h
    ·cases h
    rename_i Sc hcl
    obtain ⟨hpc2,hvc⟩:=B.claim_spec hcl
    have hpc:=hpt.trans hpc2
    cases hr:Sc.read b with
    | none=>simp [hr] at h
    | some dd=>
     simp only [hr] at h
     obtain ⟨m,hbm,hm⟩:=St.read_spec hr
     have hcp:C.v = cp:=g2 _ rfl
     split at h
     case h_2=>cases h
     rename_i d' S3 hov
     obtain ⟨hp3,hov⟩:=Data.over_spec hov
     cases hw:S3.write b d' with
     | none=>simp [hw] at h
     | some S4=>
      simp only [hw,Option.some.injEq,Prod.mk.injEq] at h
      obtain ⟨rfl,rfl⟩:=h
      refine ⟨fun ok=>hpc.ok (hp3.of_write hw ok),fun ok=>?_⟩
      have okc:=hp3.of_write hw ok
      have hfit1:=hvt (hpc2.ok okc)
      rw [N.le_v,N.add_v] at hfit1
      have hfit1:l.v + n.v ≤ C.v:=of_decide_eq_true hfit1
      have hfit2:=hvc okc
      rw [N.le_v] at hfit2
      have hfit2:1 ≤ C.v:=of_decide_eq_true hfit2
      obtain ⟨h1,h2,h3⟩:=hov (ok_of_write hw ok)
      have hHc:HRel G β Sc.H w:=by rw [hpc.H];exact hH1
      rcases g3 with g3 | ⟨L,hL,rfl,g4⟩
      ·omega
      ·have hst:=stored_spec (P:=P) (us:=us) (o:=(o.add l).v) hHc hp3 hr hw hL (by rw [N.add_v,hul];rw [N.add_v,hxl] at h1;omega) h2 (fun hv=>h3 hxr hv) hone
       obtain ⟨w',q1,qf,q2⟩:=hst
       subst hcp
       refine ⟨.slice (some (at' L.c (L.base + o.v))) (l.v + n.v) C.v,w',?_,qf,fun hn=>?_⟩
       ·refine run_append_fit (ty:=ty) ht hu hd hi hs hlen (hf w (fun _=>rfl)) hfit1 (.inr ⟨_,rfl,?_⟩)
        rw [add_at,← q1,N.add_v,Nat.add_assoc]
       ·obtain ⟨β',q2,q3⟩:=q2 hn
        have hv:=VRel.sl (β:=β') b o (l.add n) (some C) (some (at' L.c (L.base + o.v))) C.v (by rw [N.add_v];exact hfit1) (fun C' hC'=>by injection hC' with hC';subst hC';rfl) (.inr ⟨L,q3.le b L hL,rfl,g4⟩)
        rw [N.add_v] at hv
        exact ⟨β',hv,q2,by rw [← hp.H,← hpc.H];exact q3⟩
   ·rename_i Sc hte
    obtain ⟨hpc,hvt⟩:=B.test_spec hte
    cases hr:Sc.read b with
    | none=>simp [hr] at h
    | some dd=>
     simp only [hr] at h
     obtain ⟨m,hbm,hm⟩:=St.read_spec hr
     have hcp:C.v = cp:=g2 _ rfl
     split at h
     case h_2=>cases h
     rename_i d1 S3 hsub
     obtain ⟨hp3,hsub⟩:=Data.sub_spec hsub
     cases ha:d1.app xs with
     | none=>simp [ha] at h
     | some d'=>
      simp only [ha,Option.some.injEq,Prod.mk.injEq] at h
      obtain ⟨rfl,rfl⟩:=h
      refine ⟨fun o=>hpc.ok (hp3.ok o),fun ok=>?_⟩
      have hmore:=hvt (hp3.ok ok)
      rw [N.le_v,N.add_v] at hmore
      have hmore:¬ l.v + n.v ≤ C.v:=of_decide_eq_false hmore
      obtain ⟨h1,h2,h3⟩:=hsub ok
      obtain ⟨a1,a2⟩:=Data.app_spec ha
      obtain ⟨v,w',q1,qf,q2⟩:=grow dd d' m S1.H (by rw [← hpc.H];exact hbm) hm h1 (fun vs hv=>a2 (h3 _ _ hv) hxr) (by rw [a1,h2,hxl]) (by omega) hH1 (Stp.refl ..) rfl (l.add n) (N.add_v ..)
      refine ⟨v,w',q1,qf,fun hn=>?_⟩
      obtain ⟨β',r1,r2,r3⟩:=q2 hn
      have e1:S3.H = S1.H:=by rw [hp3.H,hpc.H]
      refine ⟨β',by rw [e1];exact r1,?_,?_⟩
      ·show HRel G β' (S3.H ++ _) w'
       rw [e1];exact r2
      ·show Stp β S.H w β' (S3.H ++ _) w'
       rw [e1,← hp.H];exact r3
  rename_i C l' n'
  cases hr:S1.read b with
  | none=>simp [hr] at h
  | some dd=>
   simp only [hr] at h
   obtain ⟨m,hbm,hm⟩:=St.read_spec hr
   have hcp:C = cp:=g2 _ rfl
   subst hcp
   split at h
   ·rename_i hfit
    simp only [Bool.and_eq_true] at hfit
    have hfit1:l' + n' ≤ C:=by simpa using hfit.1
    have hfit2:1 ≤ C:=by simpa using hfit.2
    split at h
    case h_2=>cases h
    rename_i d' S3 hov
    obtain ⟨hp3,hov⟩:=Data.over_spec hov
    cases hw:S3.write b d' with
    | none=>simp [hw] at h
    | some S4=>
     simp only [hw,Option.some.injEq,Prod.mk.injEq] at h
     obtain ⟨rfl,rfl⟩:=h
     refine ⟨hp3.of_write hw,fun ok=>?_⟩
     obtain ⟨h1,h2,h3⟩:=hov (ok_of_write hw ok)
     rcases g3 with g3 | ⟨L,hL,rfl,g4⟩
     ·omega
     ·rw [N.add_v] at h1
      have hst:=stored_spec (P:=P) (us:=us) (o:=(o.add (.c l')).v) hH1 hp3 hr hw hL (by rw [N.add_v,hul];simp only [N.v] at h1 hxl ⊢;omega) h2 (fun hv=>h3 hxr hv) hone
      obtain ⟨w',q1,qf,q2⟩:=hst
      refine ⟨.slice (some (at' L.c (L.base + o.v))) (l' + n') C,w',?_,qf,fun hn=>?_⟩
      ·refine run_append_fit (ty:=ty) ht hu hd hi hs hlen (hf w (fun _=>rfl)) hfit1 (.inr ⟨_,rfl,?_⟩)
       rw [add_at,← q1,N.add_v,Nat.add_assoc]
      ·obtain ⟨β',q2,q3⟩:=q2 hn
       exact ⟨β',.sl b o (.c (l' + n')) (some (.c C)) _ C hfit1 (fun C' hC'=>by injection hC' with hC';subst hC';rfl) (.inr ⟨L,q3.le b L hL,rfl,g4⟩),q2,by rw [← hp.H];exact q3⟩
   ·split at h
    ·cases h
    rename_i hfit
    have hmore:C < l' + n':=by
     rcases Nat.lt_or_ge C (l' + n') with h | h
     ·exact h
     ·rw [Nat.ble_eq_true_of_le h] at hfit;cases hfit
    split at h
    case h_2=>cases h
    rename_i d1 S3 hsub
    obtain ⟨hp3,hsub⟩:=Data.sub_spec hsub
    cases ha:d1.app xs with
    | none=>simp [ha] at h
    | some d'=>
     simp only [ha,Option.some.injEq,Prod.mk.injEq] at h
     obtain ⟨rfl,rfl⟩:=h
     refine ⟨fun o=>hp3.ok o,fun ok=>?_⟩
     obtain ⟨h1,h2,h3⟩:=hsub ok
     obtain ⟨a1,a2⟩:=Data.app_spec ha
     obtain ⟨v,w',q1,qf,q2⟩:=grow dd d' m S1.H hbm hm h1 (fun vs hv=>a2 (h3 _ _ hv) hxr) (by rw [a1,h2,hxl]) hmore hH1 (Stp.refl ..) rfl (.c (l' + n')) rfl
     refine ⟨v,w',q1,qf,fun hn=>?_⟩
     obtain ⟨β',q2,q3,q4⟩:=q2 hn
     refine ⟨β',by rw [hp3.H];exact q2,?_,?_⟩
     ·show HRel G β' (S3.H ++ _) w';rw [hp3.H];exact q3
     ·show Stp β S.H w β' (S3.H ++ _) w';rw [hp3.H,← hp.H];exact q4
 | none=>
  simp only [lget_eq] at h
  split at h
  case h_2=>cases h
  rename_i dd m hbm
  cases m <;> simp only [reduceCtorEq] at h
  split at h
  case h_2=>cases h
  rename_i S3 hc
  obtain ⟨hp3,hv⟩:=B.claim_spec hc
  cases ha:dd.app xs with
  | none=>simp [ha] at h
  | some d'=>
   simp only [ha,Option.some.injEq,Prod.mk.injEq] at h
   obtain ⟨rfl,rfl⟩:=h
   refine ⟨fun o=>hp3.ok o,fun ok=>?_⟩
   have hv:=hv ok
   rw [B.and_v,N.eq_v,N.eq_v,Bool.and_eq_true] at hv
   have ho0:o.v = 0:=by simpa [N.v] using hv.1
   have hll:l.v = dd.len:=by
    have:=hv.2
    cases l <;> simpa [N.v] using this
   obtain ⟨a1,a2⟩:=Data.app_spec ha
   have hkill:(S3.kill b).H = S1.H.set b ⟨.gen [],.dead⟩:=by simp [St.kill,lset_eq,hp3.H]
   have hHk:HRel G β (S1.H.set b ⟨.gen [],.dead⟩) w:=hH1.kill b _
   by_cases hfit:l.v + n.v ≤ cp
   ·rcases g3 with g3 | ⟨L,hL,rfl,g4⟩
    ·
     have hn0:n.v = 0:=by omega
     have hl0:l.v = 0:=by omega
     have hph:=hHk.phantom (d:=d') (by rw [a1,hxl];omega)
     have hus:us = []:=List.eq_nil_of_length_eq_zero (by omega)
     refine ⟨.slice a (l.v + n.v) cp,w,?_,Far.refl w,fun _=>⟨β,?_,?_,?_⟩⟩
     ·refine run_append_fit (ty:=ty) ht hu hd hi hs hlen (hf w (fun _=>rfl)) hfit ?_
      cases a with
      | none=>exact .inl ⟨rfl,rfl⟩
      | some a=>exact .inr ⟨a,rfl,by rw [hus];rfl⟩
     ·have:=VRel.sl (β:=β) S3.H.length (.c 0) (l.add n) none a cp (by rw [N.add_v];exact hfit) (fun C hC=>by cases hC) (.inl g3)
      rw [N.add_v] at this;exact this
     ·show HRel G β ((S3.kill b).H ++ _) w;rw [hkill];exact hph.1
     ·show Stp β S.H w β ((S3.kill b).H ++ _) w;rw [hkill,← hp.H];exact (Stp.kill b _).trans hph.2
    ·have hob:OOk β dd L w:=by
      rcases hH1.blk b _ hbm (own_alive rfl) with ⟨L',hL',hbr⟩ | ⟨_,hn⟩
      ·rw [hL] at hL';injection hL' with e;subst e;exact hbr
      ·rw [hL] at hn;cases hn
     obtain ⟨h0,hmi,vs,tt,fz,hh,hfz,hvl,hdl,hrr⟩:=hob
     have hst:=run_storeCells_atG P L.c (o.v + l.v) tt fz hmi us 0 ⟨vs⟩ w hh hfz (by simp;omega) hone
     simp only [Nat.add_zero] at hst
     have hrel:LRel β d'.list ((Eng.over vs (o.v + l.v) us).take d'.len):=by
      have:=a2 hrr hxr
      have e2:vs.take dd.len ++ us = (Eng.over vs (o.v + l.v) us).take d'.len:=by
       rw [a1,hxl,ho0,Nat.zero_add,hll]
       have hl1:(vs.take dd.len ++ us).length = dd.len + n.v:=by rw [List.length_append,List.length_take,hul];omega
       show _ = (vs.take dd.len ++ us ++ vs.drop (dd.len + us.length)).take (dd.len + n.v)
       rw [List.take_append_of_le_length (by omega)]
       exact (List.take_of_length_le (by omega)).symm
      rw [← e2];exact this
     have hmv:=hH1.move hbm hL (Eng.over vs (o.v + l.v) us) (by rw [over_len _ _ _ (by omega),hvl]) (by rw [a1,hxl];omega) hrel (.gen [])
     refine ⟨.slice (some (at' L.c (L.base + o.v))) (l.v + n.v) cp,w.setRow L.c ⟨Eng.over vs (o.v + l.v) us⟩,?_,far_setRow w hmi _,fun _=>⟨β.put S1.H.length L,?_,?_,?_⟩⟩
     ·refine run_append_fit (ty:=ty) ht hu hd hi hs hlen (hf w (fun _=>rfl)) hfit (.inr ⟨_,rfl,?_⟩)
      rw [add_at,show at' L.c (L.base + o.v + l.v) = ⟨L.c,o.v + l.v,none⟩ by simp [at',h0]]
      exact hst
     ·have hS3:S3.H.length = S1.H.length:=by rw [hp3.H]
      have:=VRel.sl (β:=β.put S1.H.length L) S3.H.length (.c 0) (l.add n) none (some (at' L.c (L.base + o.v))) cp (by rw [N.add_v];exact hfit) (fun C hC=>by cases hC)
       (.inr ⟨L,by rw [hS3];exact Map.put_same ..,by rw [ho0];rfl,by show 0 + cp ≤ L.room;omega⟩)
      rw [N.add_v] at this;exact this
     ·show HRel G _ ((S3.kill b).H ++ _) _;rw [hkill];exact hmv.1
     ·show Stp β S.H w _ ((S3.kill b).H ++ _) _;rw [hkill,← hp.H];exact hmv.2
   ·obtain ⟨v,w',q1,qf,q2⟩:=grow dd d' .own (S1.H.set b ⟨.gen [],.dead⟩) hbm (by intro h;cases h) (by omega)
     (fun vs hv=>a2 (by rw [ho0,hll,List.drop_zero,List.take_of_length_le (by rw [Data.list_len];exact Nat.le_refl _)] at hv;exact hv) hxr) (by rw [a1,hxl,hll]) (by omega) hHk (Stp.kill b _) (by simp) (l.add n) (N.add_v ..)
    refine ⟨v,w',q1,qf,fun hn=>?_⟩
    obtain ⟨β',q2,q3,q4⟩:=q2 hn
    refine ⟨β',by rw [hp3.H];exact q2,?_,?_⟩
    ·show HRel G β' ((S3.kill b).H ++ _) w';rw [hkill];exact q3
    ·show Stp β S.H w β' ((S3.kill b).H ++ _) w';rw [hkill,← hp.H];exact q4
end
end
section
variable [RowAddr] [Co]
section
variable {P:Program} {G:Nat → Option (List AV)} {β:Map} {w:World}
theorem elemT_spec {t e:TypeId} {s:Nat} (h:elemT P t = some (e,s)):P.underlying t = some (.slice e) ∧ sizeT P e = some s:=by
 unfold elemT at h
 split at h
 ·rename_i e' hu
  simp only [Option.map_eq_some_iff,Prod.mk.injEq] at h
  obtain ⟨s',hs,rfl,rfl⟩:=h
  exact ⟨hu,hs⟩
 ·cases h
theorem sliceOrString_spec {d:Option TypeDesc} (h:sliceOrString d = true):∃ d',d = some d' ∧ notInt d':=by
 unfold sliceOrString at h
 split at h
 ·exact ⟨_,rfl,.inl ⟨_,rfl⟩⟩
 ·exact ⟨_,rfl,.inr rfl⟩
 ·cases h
theorem appendOp_spec {ts:List TypeId} {az:List AV} {vs:List Value} {ty:TypeId} {x:AV} {S S':St} (h:appendOp P ts az S = some (x,S')) (ha:LRel β az vs) (hH:HRel G β S.H w) :
 (S'.ok → S.ok) ∧ (S'.ok → Does P G β S w (Builtin.append_ ⟨ts⟩ ty ⟨vs⟩) x S'):=by
 unfold appendOp at h
 split at h
 case h_2=>cases h
 rename_i t u
 split at h
 case h_2=>cases h
 rename_i e he
 obtain ⟨ht,hse⟩:=elemT_spec he
 split at h
 case h_1=>cases h
 case h_2=>cases h
 rename_i i zr hi hzr
 obtain ⟨i',z,hi',hz,_,_,hzs⟩:=zeroRow_spec hzr β
 rw [hi] at hi';injection hi' with hi';subst hi'
 obtain ⟨i',hi',hs⟩:=sizeT_info hse
 rw [hi] at hi';injection hi' with hi';subst hi'
 rw [hs] at hzs
 split at h
 ·cases h
 rename_i hb0
 have hb0:i.bytes ≠ 0:=by intro e;rw [e] at hb0;cases hb0
 split at h
 ·cases h
 rename_i hu
 obtain ⟨d,hu,hd⟩:=sliceOrString_spec hu
 split at h
 case h_2=>cases h
 rename_i s a
 obtain ⟨vs1,vr,rfl,hsv,hr⟩:=ha.cons_inv
 obtain ⟨vx,vr',rfl,hxv,hr'⟩:=hr.cons_inv
 have:=hr'.nil_inv;subst this
 cases hn:lenN a with
 | none=>simp [hn] at h
 | some n=>
  simp only [hn] at h
  cases hda:dataOf a n S with
  | none=>simp [hda] at h
  | some r=>
   obtain ⟨xs,S1⟩:=r
   simp only [hda] at h
   obtain ⟨hp1,hds⟩:=dataOf_spec (P:=P) hda hxv hn (Nat.le_refl _) hH
   split at h
   ·cases h
   rename_i hsing
   split at h
   ·
    cases hsv
    have key:∀ S2:St,(n.mulc i.bytes).fits.claim S1 = some S2 → some (AV.sl S2.H.length (.c 0) n none,(S2.new xs).2) = some (x,S') → (S'.ok → S.ok) ∧ (S'.ok → Does P G β S w (Builtin.append_ ⟨[t,u]⟩ ty ⟨[Value.slice none 0 0,vx]⟩) x S'):=by
     intro S2 hc h
     simp only [Option.some.injEq,Prod.mk.injEq] at h
     obtain ⟨rfl,rfl⟩:=h
     obtain ⟨hp2,hv2⟩:=B.claim_spec hc
     refine ⟨fun o=>hp1.ok (hp2.ok o),fun ok=>?_⟩
     have hf:=hv2 ok
     rw [N.fits,N.le_v,N.mulc_v] at hf
     have hf:=of_decide_eq_true hf
     have hf:n.v * i.bytes ≤ 1099511627776:=hf
     obtain ⟨hxl,us,hul,hxr,hfc⟩:=hds (hp2.ok ok)
     have hH2:HRel G β S2.H w:=by rw [hp2.H,hp1.H];exact hH
     by_cases hn0:n.v = 0
     ·have hph:=hH2.phantom (d:=xs) (by omega)
      have hus:us = []:=List.eq_nil_of_length_eq_zero (by omega)
      refine ⟨.slice none 0 0,w,?_,Far.refl w,fun _=>⟨β,?_,hph.1,?_⟩⟩
      ·have:=run_append_fit (P:=P) (w:=w) (ty:=ty) (base:=none) (sLen:=0) (sCap:=0) (w':=w) ht hu hd hi hs (fun w=>lenN_spec hn hxv w) (hfc w (fun _=>rfl)) (by omega) (.inl ⟨rfl,rfl⟩)
       rw [hn0] at this;exact this
      ·have:=VRel.sl (β:=β) S2.H.length (.c 0) n none none 0 (by omega) (fun C hC=>by cases hC) (.inl rfl)
       rw [hn0] at this;exact this
      ·rw [hp2.H,hp1.H] at hph;show Stp β S.H w β (S2.H ++ _) w;rw [hp2.H,hp1.H];exact hph.2
     ·have hrun:=run_append_more (P:=P) (w:=w) (base:=none) (sLen:=0) (sCap:=0) (olds:=[]) (ty:=ty) ht hu hd hi hz hs (fun w=>lenN_spec hn hxv w) (hfc w.drew (fun _=>rfl)) (runQ_firstCells_none P _ 1 0 _ _) (by omega) (by rw [Nat.zero_add];exact hf) hb0
      simp only [Nat.zero_add,List.nil_append] at hrun
      have hg:=le_grownCap w n.v 0 e
      have hzl:(Builtin.zeroCells z.cells (grownCap w n.v 0 e - n.v)).toList.length = grownCap w n.v 0 e - n.v:=by simp [Builtin.zeroCells,hzs]
      have hnew:=hH2.drew.new xs (us ++ (Builtin.zeroCells z.cells (grownCap w n.v 0 e - n.v)).toList) e (by rw [List.length_append];omega)
       (by rw [hxl,← hul,List.take_left];exact hxr)
      refine ⟨_,_,hrun,far_alloc_drew _ _,fun hn=>?_⟩
      have hnew:=hnew (new_alloc_drew hn)
      refine ⟨_,?_,hnew.1,?_⟩
      ·exact .sl S2.H.length (.c 0) n none (some (at' w.heap.size 0)) (grownCap w n.v 0 e) hg (fun C hC=>by cases hC) (.inr ⟨_,Map.put_same ..,rfl,by
        show 0 + _ ≤ (us ++ _).length
        rw [List.length_append,hzl];omega⟩)
      ·show Stp β S.H w _ (S2.H ++ _) _
       have:=(Stp.drew β S2.H w).trans hnew.2
       rw [hp2.H,hp1.H] at this ⊢;exact this
    cases n with
    | c n'=>
     cases n' with
     | zero=>
      simp only [Option.some.injEq,Prod.mk.injEq] at h
      obtain ⟨rfl,rfl⟩:=h
      refine ⟨hp1.ok,fun ok=>?_⟩
      obtain ⟨hxl,us,hul,hxr,hfc⟩:=hds ok
      refine Does.pure hH hp1 (v:=.slice none 0 0) ?_ .nils
      exact run_append_fit (P:=P) (w:=w) (ty:=ty) (base:=none) (sLen:=0) (sCap:=0) (w':=w) ht hu hd hi hs (fun w=>lenN_spec hn hxv w) (hfc w (fun _=>rfl)) (by simp [N.v]) (.inl ⟨rfl,rfl⟩)
     | succ n'=>
      simp only at h
      cases hc:(N.mulc (.c (n' + 1)) i.bytes).fits.claim S1 with
      | none=>simp [hc] at h
      | some S2=>simp only [hc] at h;exact key S2 hc h
    | s n'=>
     simp only at h
     cases hc:(N.mulc (.s n') i.bytes).fits.claim S1 with
     | none=>simp [hc] at h
     | some S2=>simp only [hc] at h;exact key S2 hc h
   ·rename_i b o l cap
    cases hc:((l.add n).mulc i.bytes).fits.claim S1 with
    | none=>simp [hc] at h
    | some S2=>
     simp only [hc] at h
     obtain ⟨hp2,hv2⟩:=B.claim_spec hc
     have mono:S'.ok → S2.ok:=by
      intro ok
      clear hds
      unfold appendSl at h
      cases cap with
      | some C=>
       simp only at h
       split at h
       case h_2=>
        split at h
        ·cases h
        ·rename_i hte
         obtain ⟨hpt,_⟩:=B.test_spec hte
         split at h
         ·cases h
         rename_i hcl
         obtain ⟨hpc,_⟩:=B.claim_spec hcl
         split at h
         ·cases h
         split at h
         case h_2=>cases h
         rename_i hov
         obtain ⟨hp3,_⟩:=Data.over_spec hov
         split at h
         case h_2=>cases h
         rename_i hw
         simp only [Option.some.injEq,Prod.mk.injEq] at h
         obtain ⟨_,rfl⟩:=h
         exact hpt.ok (hpc.ok (hp3.of_write hw ok))
        ·rename_i hte
         obtain ⟨hpt,_⟩:=B.test_spec hte
         split at h
         ·cases h
         split at h
         case h_2=>cases h
         rename_i hsub
         obtain ⟨hp3,_⟩:=Data.sub_spec hsub
         split at h
         case h_2=>cases h
         simp only [Option.some.injEq,Prod.mk.injEq] at h
         obtain ⟨_,rfl⟩:=h
         exact hpt.ok (hp3.ok ok)
       split at h
       ·cases h
       ·split at h
        ·split at h
         case h_2=>cases h
         rename_i hov
         obtain ⟨hp3,_⟩:=Data.over_spec hov
         split at h
         case h_2=>cases h
         rename_i hw
         simp only [Option.some.injEq,Prod.mk.injEq] at h
         obtain ⟨_,rfl⟩:=h
         exact hp3.of_write hw ok
        ·split at h
         ·cases h
         ·split at h
          case h_2=>cases h
          rename_i hsub
          obtain ⟨hp3,_⟩:=Data.sub_spec hsub
          split at h
          case h_2=>cases h
          simp only [Option.some.injEq,Prod.mk.injEq] at h
          obtain ⟨_,rfl⟩:=h
          exact hp3.ok ok
      | none=>
       simp only at h
       split at h
       case h_2=>cases h
       split at h
       case h_2=>cases h
       split at h
       case h_2=>cases h
       rename_i hcl
       obtain ⟨hp3,_⟩:=B.claim_spec hcl
       split at h
       case h_2=>cases h
       simp only [Option.some.injEq,Prod.mk.injEq] at h
       obtain ⟨_,rfl⟩:=h
       exact hp3.ok ok
     refine ⟨fun ok=>hp1.ok (hp2.ok (mono ok)),fun ok=>?_⟩
     have ok2:=mono ok
     obtain ⟨hxl,us,hul,hxr,hfc⟩:=hds (hp2.ok ok2)
     have hf:=hv2 ok2
     rw [N.fits,N.le_v,N.mulc_v,N.add_v] at hf
     have hf:=of_decide_eq_true hf
     have hf:(l.v + n.v) * i.bytes ≤ 1099511627776:=hf
     exact (append_core (ty:=ty) ht hu hd hi hz hs hzs hb0 (fun w=>lenN_spec hn hxv w) hfc hul hxl hxr (singles_spec hsing hxr) hsv hH (hp1.trans hp2) hf h).2 ok
   ·cases h
theorem copyOp_spec {ts:List TypeId} {az:List AV} {vs:List Value} {ty:TypeId} {x:AV} {S S':St} (h:copyOp P ts az S = some (x,S')) (ha:LRel β az vs) (hH:HRel G β S.H w) :
 (S'.ok → S.ok) ∧ (S'.ok → Does P G β S w (Builtin.copy_ ⟨ts⟩ ty ⟨vs⟩) x S'):=by
 unfold copyOp at h
 split at h
 case h_2=>cases h
 rename_i t tr
 split at h
 case h_2=>cases h
 rename_i e he
 obtain ⟨ht,hse⟩:=elemT_spec he
 split at h
 case h_2=>cases h
 rename_i d a
 obtain ⟨vd,vr,rfl,hdv,hr⟩:=ha.cons_inv
 obtain ⟨vx,vr',rfl,hxv,hr'⟩:=hr.cons_inv
 have:=hr'.nil_inv;subst this
 cases hl:lenN d with
 | none=>simp [hl] at h
 | some l=>
  cases hm:lenN a with
  | none=>simp [hl,hm] at h
  | some m=>
   simp only [hl,hm] at h
   cases hda:dataOf a (m.min l) S with
   | none=>simp [hda] at h
   | some r=>
    obtain ⟨xs,S1⟩:=r
    simp only [hda] at h
    have hnv:(m.min l).v = Nat.min m.v l.v:=N.min_v m l
    obtain ⟨hp1,hds⟩:=dataOf_spec (P:=P) hda hxv hm (by rw [hnv];exact Nat.min_le_left _ _) hH
    split at h
    ·cases h
    rename_i hsing
    split at h
    ·rename_i b o l' cap
     simp only [lenN,Option.some.injEq] at hl;subst hl
     cases hr:S1.read b with
     | none=>simp [hr] at h
     | some dd=>
      simp only [hr] at h
      split at h
      case h_2=>cases h
      rename_i d' S2 hov
      obtain ⟨hp2,hov⟩:=Data.over_spec hov
      split at h
      case h_2=>cases h
      rename_i S3 hw
      simp only [Option.some.injEq,Prod.mk.injEq] at h
      obtain ⟨rfl,rfl⟩:=h
      refine ⟨fun ok=>hp1.ok (hp2.of_write hw ok),fun ok=>?_⟩
      obtain ⟨hxl,us,hul,hxr,hfc⟩:=hds (hp2.of_write hw ok)
      obtain ⟨h1,h2,h3⟩:=hov (ok_of_write hw ok)
      obtain ⟨base,cp,rfl,g1,g2,g3⟩:=hdv.sl_inv
      have hH1:HRel G β S1.H w:=by rw [hp1.H];exact hH
      have hrun:∀ w',(base = none ∧ w' = w ∨ ∃ p,base = some p ∧ (storeCells p us).runQ P w = .ok () w') → (Builtin.copy_ ⟨t :: tr⟩ ty ⟨[Value.slice base l'.v cp,vx]⟩).runQ P w = .ok (.int .i64 ((m.min l').toZ).v) w':=by
       intro w' hst
       have e:Nat.min m.v l'.v = (m.min l').v:=hnv.symm
       have hfc':=hfc w (fun _=>rfl)
       rcases hst with ⟨rfl,rfl⟩ | ⟨p,rfl,hst⟩
       ·simp [Builtin.copy_,run_und ht,sizeT_spec hse,lenN_spec hm hxv,e,hfc',goInt,N.toZ_v]
       ·simp [Builtin.copy_,run_und ht,sizeT_spec hse,lenN_spec hm hxv,e,hfc',hst,goInt,N.toZ_v]
      rcases g3 with g3 | ⟨L,hL,rfl,g4⟩
      ·
       have hn0:(m.min l').v = 0:=by rw [hnv];have:Nat.min m.v l'.v ≤ l'.v:=Nat.min_le_right _ _;omega
       have hus:us = []:=List.eq_nil_of_length_eq_zero (by omega)
       obtain ⟨d0,hb0,hS3,_⟩:=St.write_spec hw
       obtain ⟨md,hbm,hmd⟩:=St.read_spec hr
       rw [hp2.H,hbm] at hb0
       injection hb0 with e1;injection e1 with e1 e2;subst e1 e2
       have hblt:b < S1.H.length:=by
        rcases Nat.lt_or_ge b S1.H.length with h | h
        ·exact h
        ·simp [List.getElem?_eq_none h] at hbm
       have hmain:HRel G β S3.H w ∧ Stp β S1.H w β S3.H w:=by
        rw [hS3,hp2.H]
        rcases hH1.blk b _ hbm (own_alive rfl) with ⟨L,hL,hbr⟩ | ⟨hz,hno⟩
        ·obtain ⟨h0,hmi,vs,tt,fz,hh,hfz,hvl,hdl,hrr⟩:=hbr
         have hwr:=hH1.write (d':=d') hbm hL vs hvl (by rw [h2];exact hdl) (by
          have:=h3 (us:=[]) (vs:=vs.take dd.len) (by rw [← hus];exact hxr) hrr
          rw [h2]
          simpa [Eng.over] using this)
         rw [setRow_self w L.c ⟨vs⟩ tt fz hh] at hwr
         exact hwr
        ·have hget:∀ (x:Nat) k,(S1.H.set b ⟨d',.own⟩)[x]? = some k → (x = b ∧ k = ⟨d',.own⟩) ∨ (x ≠ b ∧ S1.H[x]? = some k):=by
          intro x k hk
          by_cases e:x = b
          ·subst e;rw [List.getElem?_set_self hblt] at hk;injection hk with hk;exact .inl ⟨rfl,hk.symm⟩
          ·rw [List.getElem?_set_ne (Ne.symm e)] at hk;exact .inr ⟨e,hk⟩
         refine ⟨⟨?_,?_,fun x L h=>by simpa using hH1.dom x L h,hH1.glob,?_⟩,⟨Map.le_refl β,by simp,rfl,rfl,rfl,Nat.le_refl _,fun _ _ _=>Kp.refl _ _,?_,fun _ _=>rfl⟩⟩
         ·intro x k hk ha
          rcases hget x k hk with ⟨rfl,rfl⟩ | ⟨hx,hk⟩
          ·exact .inr ⟨by simp only [h2];exact hz,hno⟩
          ·exact hH1.blk x k hk ha
         ·intro x y k k' L1 L2 hne hk hk' ho hal hL1 hL2
          rcases hget x k hk with ⟨rfl,rfl⟩ | ⟨hx,hk⟩
          ·rw [hno] at hL1;cases hL1
          ·rcases hget y k' hk' with ⟨rfl,rfl⟩ | ⟨hy,hk'⟩
           ·rw [hno] at hL2;cases hL2
           ·exact hH1.dis x y k k' L1 L2 hne hk hk' ho hal hL1 hL2
         ·intro x k L1 hk ho hL1
          rcases hget x k hk with ⟨rfl,rfl⟩ | ⟨hx,hk⟩
          ·rw [hno] at hL1;cases hL1
          ·exact hH1.apart x k L1 hk ho hL1
         ·intro c hc ⟨x,k,L1,hk,ho,hL1,hLc⟩
          rcases hget x k hk with ⟨rfl,rfl⟩ | ⟨hx,hk⟩
          ·rw [hno] at hL1;cases hL1
          ·exact ⟨x,k,L1,hk,ho,hL1,hLc⟩
       refine ⟨_,w,hrun w ?_,Far.refl w,fun _=>⟨β,.num (.int .i64 _),hmain.1,by rw [← hp1.H];exact hmain.2⟩⟩
       cases base with
       | none=>exact .inl ⟨rfl,rfl⟩
       | some p=>exact .inr ⟨p,rfl,by rw [hus];rfl⟩
      ·have hst:=stored_spec (P:=P) (us:=us) (o:=o.v) hH1 hp2 hr hw hL (by omega) h2 (fun hv=>h3 hxr hv) (singles_spec hsing hxr)
       obtain ⟨w',q1,qf,q2⟩:=hst
       exact ⟨_,w',hrun w' (.inr ⟨_,rfl,q1⟩),qf,fun hn=>let ⟨β',q2,q3⟩:=q2 hn;⟨β',.num (.int .i64 _),q2,by rw [← hp1.H];exact q3⟩⟩
    ·simp only [lenN,Option.some.injEq] at hl;subst hl
     simp only [Option.some.injEq,Prod.mk.injEq] at h
     obtain ⟨rfl,rfl⟩:=h
     refine ⟨hp1.ok,fun ok=>?_⟩
     obtain ⟨hxl,us,hul,hxr,hfc⟩:=hds ok
     cases hdv
     have hn0:(m.min (.c 0)).v = 0:=by rw [hnv];simp [N.v]
     have hfc':=hfc w (fun _=>rfl)
     rw [hn0] at hfc'
     refine Does.pure hH hp1 (v:=.int .i64 0) ?_ (.num (.int .i64 (.c 0)))
     simp [Builtin.copy_,run_und ht,sizeT_spec hse,lenN_spec hm hxv,hfc',goInt]
    ·cases h
end
end
section
variable [RowAddr] [Co]
section
variable {P:Program} {G:Nat → Option (List AV)} {β:Map} {w:World}
theorem foldl_over (off:Nat):∀ (l:List Value) (k:Nat) (cs:Array Value),off + k + l.length ≤ cs.size →
 ((l.zipIdx k).foldl (fun (cs:Array Value) (p:Value × Nat)=>cs.setIfInBounds (off + p.2) p.1) cs).toList = Eng.over cs.toList (off + k) l
 | [],k,cs,h=>by simp [Eng.over]
 | v :: l,k,cs,h=>by
  simp only [List.zipIdx_cons,List.foldl_cons]
  rw [foldl_over off l (k + 1) _ (by simp at h ⊢;omega),Array.toList_setIfInBounds]
  have:=list_seg_step cs.toList (off + k) v l (by simp at h ⊢;omega)
  simpa [Eng.over,Nat.add_assoc] using this
theorem fill_spec (place:Nat → Option (Nat × Nat)):∀ (ps:List (Nat × AV)) (vs:List (Nat × Value)) (qs:List (Nat × Nat × AV)) (cells:List AV) (cs:Array Value) (r:List AV),
 fillAt cells qs = some r → LRel β cells cs.toList → ps.length = vs.length → (∀ (i:Nat) p v,ps[i]? = some p → vs[i]? = some v → p.1 = v.1 ∧ VRel β p.2 v.2) →
 ps.length = qs.length → (∀ (i:Nat) p q,ps[i]? = some p → qs[i]? = some q → place p.1 = some (q.1,q.2.1) ∧ q.2.2 = p.2) →
 ∃ rs,Instr.fill place cs vs = some rs ∧ LRel β r rs.toList
 | [],[],[],cells,cs,r,h,hc,_,_,_,_=>by simp [fillAt] at h;subst h;exact ⟨cs,rfl,hc⟩
 | p :: ps,v :: vs,q :: qs,cells,cs,r,h,hc,h1,h2,h3,h4=>by
  obtain ⟨off,size,x⟩:=q
  obtain ⟨i,u⟩:=v
  obtain ⟨e1,hv⟩:=h2 0 p _ rfl rfl
  obtain ⟨e2,e3⟩:=h4 0 p _ rfl rfl
  simp only at e1 e2 e3 hv
  subst e3
  simp only [fillAt] at h
  cases hr:p.2.row with
  | none=>simp [hr] at h
  | some vc=>
   simp only [hr] at h
   have hvc:=row_spec hr hv
   split at h
   case h_2=>cases h
   rename_i hsz
   have hsz:vc.length = size:=by simpa using hsz
   cases hp:lput vc off cells with
   | none=>simp [hp] at h
   | some cells'=>
    simp only [hp] at h
    obtain ⟨b1,rfl⟩:=lput_eq _ _ _ _ hp
    have hcl:=hc.1
    have hvl:=hvc.1
    have hu:u.cells.size = size:=by rw [← hsz,hvl];simp
    have hfit:off + u.cells.size ≤ cs.size:=by
     have:cells.length = cs.size:=by rw [hcl];simp
     omega
    have hf:(u.cells.zipIdx.foldl (fun cs (p:Value × Nat)=>cs.setIfInBounds (off + p.2) p.1) cs).toList = Eng.over cs.toList off u.cells.toList:=by
     rw [← Array.foldl_toList,Array.toList_zipIdx]
     have:=foldl_over off u.cells.toList 0 cs (by simpa using hfit)
     simpa using this
    obtain ⟨rs,g1,g2⟩:=fill_spec place ps vs qs _ (u.cells.zipIdx.foldl (fun cs (p:Value × Nat)=>cs.setIfInBounds (off + p.2) p.1) cs) r h
     (by rw [hf];exact LRel.over hc hvc off) (by simpa using h1) (fun i p v hp hv=>h2 (i + 1) p v (by simpa using hp) (by simpa using hv)) (by simpa using h3) (fun i p q hp hq=>h4 (i + 1) p q (by simpa using hp) (by simpa using hq))
    refine ⟨rs,?_,g2⟩
    rw [← g1]
    have hn:¬ (cs.size < off + u.cells.size):=by omega
    simp [Instr.fill,← e1,e2,hu,hu ▸ hn]
 | [],v :: vs,_,_,_,_,_,_,h1,_,_,_=>by simp at h1
 | p :: ps,[],_,_,_,_,_,_,h1,_,_,_=>by simp at h1
 | [],[],q :: qs,_,_,_,_,_,_,_,h3,_=>by simp at h3
 | p :: ps,v :: vs,[],_,_,_,_,_,_,_,h3,_=>by simp at h3
def PRel (β:Map) (ps:List (Nat × AV)) (vs:List (Nat × Value)):Prop:=ps.length = vs.length ∧ ∀ (i:Nat) p v,ps[i]? = some p → vs[i]? = some v → p.1 = v.1 ∧ VRel β p.2 v.2
theorem run_places (fields:List Field) (places:List (Nat × Nat)) (h:mapOpt (fun (f:Field)=>(sizeT P f.type).map fun s=>(f.offset,s)) fields = some places) (w:World) :
 (fields.mapM fun (f:Field)=>(Prod.mk f.offset <$> sizeOf f.type:Sem (Nat × Nat))).runQ P w = .ok places w:=by
 induction fields generalizing places with
 | nil=>simp [mapOpt] at h;subst h;rfl
 | cons f fields ih=>
  simp only [mapOpt] at h
  cases hs:sizeT P f.type with
  | none=>simp [hs] at h
  | some s=>
   simp only [hs,Option.map_some] at h
   cases hm:mapOpt (fun (f:Field)=>(sizeT P f.type).map fun s=>(f.offset,s)) fields with
   | none=>simp [hm] at h
   | some r=>
    simp only [hm,Option.some.injEq] at h;subst h
    simp [List.mapM_cons,sizeT_spec hs,ih r hm]
theorem mapOpt_get {α γ:Type} {f:α → Option γ} {l:List α} {r:List γ} (h:mapOpt f l = some r) (i:Nat) (x:α) (y:γ) (hx:l[i]? = some x) (hy:r[i]? = some y):f x = some y:=by
 induction l generalizing r i with
 | nil=>simp at hx
 | cons a l ih=>
  simp only [mapOpt] at h
  cases h1:f a with
  | none=>simp [h1] at h
  | some b=>
   cases h2:mapOpt f l with
   | none=>simp [h1,h2] at h
   | some bs=>
    simp [h1,h2] at h;subst h
    cases i with
    | zero=>simp at hx hy;subst hx hy;exact h1
    | succ i=>exact ih h2 i (by simpa using hx) (by simpa using hy)
theorem buildOp_spec {t:TypeId} {ps:List (Nat × AV)} {vs:List (Nat × Value)} {x:AV} {S:St} (h:buildOp P t ps = some x) (hp:PRel β ps vs) (hH:HRel G β S.H w) :
 Does P G β S w (Instr.build t ⟨vs⟩) x S:=by
 unfold buildOp at h
 cases hz:zeroRow P t with
 | none=>simp [hz] at h
 | some zr=>
  simp only [hz] at h
  obtain ⟨i,z,hi,hz',hzl,_,_⟩:=zeroRow_spec hz β
  split at h
  ·rename_i fields hu
   cases hm:mapOpt (fun (f:Field)=>(sizeT P f.type).map fun s=>(f.offset,s)) fields.toList with
   | none=>simp [hm] at h
   | some places=>
    simp only [hm] at h
    cases hq:mapOpt (fun (p:Nat × AV)=>(lget p.1 places).map fun q=>(q.1,q.2,p.2)) ps with
    | none=>simp [hq] at h
    | some qs=>
     simp only [hq,Option.map_eq_some_iff] at h
     obtain ⟨r,hr,rfl⟩:=h
     obtain ⟨rs,g1,g2⟩:=fill_spec (β:=β) (fun i=>places[i]?) ps vs qs zr z.cells r hr hzl hp.1 hp.2 (mapOpt_len hq).symm (fun i p q hpi hqi=>by
      have:=mapOpt_get hq i p q hpi hqi
      simp only [Option.map_eq_some_iff] at this
      obtain ⟨q',h1,h2⟩:=this
      rw [lget_eq] at h1
      subst h2
      exact ⟨h1,rfl⟩)
     refine Does.pure hH (Pure.refl _) (v:=.agg rs) ?_ (by cases rs;exact VRel.aggL g2)
     have hpl:=run_places (P:=P) fields.toList places hm w
     simp [Instr.build,zeroValue,typeInfo,hi,hz',run_und hu,Array.mapM_eq_mapM_toList,hpl,g1]
  ·rename_i n e hu
   cases hs:sizeT P e with
   | none=>simp [hs] at h
   | some s=>
    simp only [hs,Option.map_eq_some_iff] at h
    obtain ⟨r,hr,rfl⟩:=h
    obtain ⟨rs,g1,g2⟩:=fill_spec (β:=β) (fun i=>some (i * s,s)) ps vs (ps.map fun p=>(p.1 * s,s,p.2)) zr z.cells r hr hzl hp.1 hp.2 (by simp) (fun i p q hpi hqi=>by
     simp only [List.getElem?_map,hpi,Option.map_some,Option.some.injEq] at hqi
     subst hqi;exact ⟨rfl,rfl⟩)
    refine Does.pure hH (Pure.refl _) (v:=.agg rs) ?_ (by cases rs;exact VRel.aggL g2)
    simp [Instr.build,zeroValue,typeInfo,hi,hz',run_und hu,sizeT_spec hs,g1]
  ·cases h
end
end
section
variable [RowAddr] [Co]
section
variable {P:Program} {G:Nat → Option (List AV)} {β:Map} {w:World}
theorem buildSliceOp_run {t:TypeId} {n:Nat} {ps:List (Nat × AV)} {vs:List (Nat × Value)} {x:AV} {S S':St} (h:buildSliceOp P t n ps S = some (x,S')) (hp:PRel β ps vs) :
 ∃ (r:List AV) (rs:Array Value) (e:TypeId),S' = (S.new (.gen r)).2 ∧ x = .ref (.sl S.H.length (.c 0) (.c n) (some (.c n))) ∧ LRel β r rs.toList ∧ n ≤ rs.toList.length ∧
  ∀ w:World,(Instr.buildSlice t n ⟨vs⟩).runQ P w = .ok (.slice (some (at' w.heap.size 0)) n n) (w.alloc (.cells rs e)):=by
 unfold buildSliceOp at h
 split at h
 case h_2=>cases h
 rename_i e s he
 obtain ⟨hu,hs⟩:=elemT_spec he
 split at h
 ·cases h
 rename_i hs0
 have h0:¬ n * s = 0:=by intro e;rw [e] at hs0;cases hs0
 have hs0:s ≠ 0:=by intro e;rw [e] at h0;simp at h0
 split at h
 ·cases h
 rename_i hbig
 have hbig:n * s ≤ 2 ^ 24:=Nat.le_of_ble_eq_true hbig
 cases hz:zeroRow P e with
 | none=>simp [hz] at h
 | some zr=>
  simp only [hz] at h
  obtain ⟨i,z,hi,hz',hzl,e1,e2⟩:=zeroRow_spec hz β
  obtain ⟨i',hi',hsi⟩:=sizeT_info hs
  rw [hi] at hi';injection hi' with hi';subst hi'
  split at h
  case h_2=>cases h
  rename_i r hr
  simp only [Option.some.injEq,Prod.mk.injEq] at h
  obtain ⟨rfl,rfl⟩:=h
  have hzc:=madeCells_rel hzl n
  rw [e2,hsi] at hzc
  obtain ⟨rs,g1,g2⟩:=fill_spec (β:=β) (fun i=>some (i * s,s)) ps vs (ps.map fun p=>(p.1 * s,s,p.2)) _ (madeCells z.cells (n * s)) r hr hzc hp.1 hp.2 (by simp) (fun i p q hpi hqi=>by
   simp only [List.getElem?_map,hpi,Option.map_some,Option.some.injEq] at hqi
   subst hqi;exact ⟨rfl,rfl⟩)
  have hrl:rs.toList.length = n * s:=by
   have hlen:r.length = (List.replicate n zr).flatten.length:=by
    have:∀ (qs:List (Nat × Nat × AV)) (cells r:List AV),fillAt cells qs = some r → r.length = cells.length:=by
     intro qs
     induction qs with
     | nil=>intro cells r h;simp [fillAt] at h;subst h;rfl
     | cons q qs ih=>
      intro cells r h
      obtain ⟨off,size,v⟩:=q
      simp only [fillAt] at h
      cases hv:v.row with
      | none=>simp [hv] at h
      | some vc=>
       simp only [hv] at h
       split at h
       case h_2=>cases h
       cases hl:lput vc off cells with
       | none=>simp [hl] at h
       | some c'=>
        simp only [hl] at h
        obtain ⟨b1,rfl⟩:=lput_eq _ _ _ _ hl
        rw [ih _ _ h,over_len _ _ _ b1]
    exact this _ _ _ hr
   rw [← g2.1,hlen,List.length_flatten]
   simp [e1,hsi]
  refine ⟨r,rs,e,rfl,rfl,g2,?_,fun w=>?_⟩
  ·rw [hrl]
   exact Nat.le_mul_of_pos_right _ (by omega)
  ·have hmc:(if n * s = 0 then (#[]:Array Value) else z.cells).size = (if n * s = 0 then 0 else s):=by split <;> simp [e2,hsi]
   have hb:¬ (16777216 < n * s):=by omega
   have hm:madeCells z.cells (n * s) = (Array.range (n * s)).map (fun i=>z.cells[i % z.cells.size]!):=rfl
   rw [hm] at g1
   simp [Instr.buildSlice,run_und hu,sizeT_spec hs,h0,hb,zeroValue,typeInfo,hi,hz',g1,newRow,at']
theorem buildSliceOp_spec {t:TypeId} {n:Nat} {ps:List (Nat × AV)} {vs:List (Nat × Value)} {x:AV} {S S':St} (h:buildSliceOp P t n ps S = some (x,S')) (hp:PRel β ps vs) (hH:HRel G β S.H w) :
 (S'.ok → S.ok) ∧ Does P G β S w (Instr.buildSlice t n ⟨vs⟩) x S':=by
 obtain ⟨r,rs,e,rfl,rfl,g2,g3,g4⟩:=buildSliceOp_run h hp
 refine ⟨fun o=>o,.slice (some (at' w.heap.size 0)) n n,w.alloc (.cells rs e),g4 w,far_alloc _ _,fun hn=>⟨_,?_,new_gen hH e g2 (new_alloc hn)⟩⟩
 refine .sl _ _ _ _ _ _ (Nat.le_refl _) (fun C hC=>by injection hC with hC;subst hC;rfl) (.inr ⟨_,Map.put_same ..,rfl,?_⟩)
 show 0 + n ≤ rs.toList.length
 omega
theorem partOf_spec {t:TypeId} {xs:List AV} {vs:List Value} {off:Nat} {x:AV} (h:partOf P t xs off = some x) (hv:LRel β xs vs) (w:World) :
 ∃ v,(part t ⟨vs⟩ off).runQ P w = .ok v w ∧ VRel β x v:=by
 unfold partOf at h
 cases hg:isAggT P t with
 | none=>simp [hg] at h
 | some b=>
  cases b with
  | true=>
   simp only [hg] at h
   cases hs:sizeT P t with
   | none=>simp [hs] at h
   | some s=>
    simp only [hs,Option.map_eq_some_iff] at h
    obtain ⟨r,hr,rfl⟩:=h
    obtain ⟨h1,rfl⟩:=lsub_eq _ _ _ _ hr
    refine ⟨.agg ⟨(vs.drop off).take s⟩,?_,VRel.aggL ((hv.drop off).take s)⟩
    simp [part,isAggT_spec hg,sizeT_spec hs,List.take_drop]
  | false=>
   simp only [hg,lget_eq] at h
   obtain ⟨v,h1,h2⟩:=hv.get h
   refine ⟨v,?_,h2⟩
   simp [part,isAggT_spec hg,h1]
theorem fieldOp_spec {t:TypeId} {a x:AV} {va:Value} {f:Nat} {S:St} (h:fieldOp P t a f = some x) (ha:VRel β a va) (hH:HRel G β S.H w) :
 Does P G β S w (Instr.field t va f) x S:=by
 unfold fieldOp at h
 split at h
 case h_2=>cases h
 rename_i fields hu
 split at h
 case h_2=>cases h
 rename_i xs
 rw [lget_eq] at h
 cases hf:fields.toList[f]? with
 | none=>simp [hf] at h
 | some fd=>
  simp only [hf] at h
  have hf':fields[f]? = some fd:=by simpa using hf
  obtain ⟨vs,rfl,hl⟩:=ha.agg_inv
  obtain ⟨v,h1,h2⟩:=partOf_spec (P:=P) h hl w
  refine Does.pure hH (Pure.refl _) ?_ h2
  simp [Instr.field,run_und hu,hf',asAgg,h1]
theorem str_get (s:ByteArray) (n:Nat):s[n]? = s.data.toList[n]?:=by
 rw [Array.getElem?_toList]
 by_cases h:n < s.size
 ·rw [getElem?_pos s n h,getElem?_pos s.data n h];rfl
 ·rw [getElem?_neg s n h,getElem?_neg s.data n h]
theorem mapOpt_at {α β:Type} {f:α → Option β}:∀ {xs:List α} {l:List β},mapOpt f xs = some l → xs.length = l.length ∧ ∀ (i:Nat) y,l[i]? = some y → ∃ x,xs[i]? = some x ∧ f x = some y
 | [],l,h=>by simp only [mapOpt,Option.some.injEq] at h;subst h;exact ⟨rfl,fun i y hy=>by simp at hy⟩
 | x :: r,l,h=>by
  simp only [mapOpt] at h
  cases hx:f x with
  | none=>simp [hx] at h
  | some y=>
   cases hr:mapOpt f r with
   | none=>simp [hx,hr] at h
   | some ys=>
    simp only [hx,hr,Option.some.injEq] at h
    subst h
    obtain ⟨h1,h2⟩:=mapOpt_at hr
    refine ⟨by simp [h1],fun i z hz=>?_⟩
    cases i with
    | zero=>simp at hz;subst hz;exact ⟨x,rfl,hx⟩
    | succ i=>exact h2 i z (by simpa using hz)
theorem indexOp_spec {t:TypeId} {a i x:AV} {va vi:Value} {S S':St} (h:indexOp P t a i S = some (x,S')) (ha:VRel β a va) (hi:VRel β i vi) (hH:HRel G β S.H w) :
 Pure S S' ∧ (S'.ok → Does P G β S w (Instr.index t va vi) x S'):=by
 unfold indexOp at h
 cases hz:i.nm with
 | none=>simp [hz] at h
 | some z=>
  simp only [hz] at h
  obtain ⟨k,rfl⟩:=AV.nm_spec hz hi
  split at h
  case h_3=>cases h
  case h_2 hu=>
   split at h
   case h_2=>cases h
   rename_i s
   cases ha
   cases z with
   | c z=>
    simp only at h
    split at h
    case h_2=>cases h
    rename_i hb
    rw [intLe_eq] at hb
    have hb1:0 ≤ z:=of_decide_eq_true hb
    rw [lget_eq] at h
    cases hg:s.data.toList[z.toNat]? with
    | none=>simp [hg] at h
    | some b=>
     simp only [hg,Option.some.injEq,Prod.mk.injEq] at h
     obtain ⟨rfl,rfl⟩:=h
     refine ⟨Pure.refl _,fun _=>Does.pure (v:=.int .u8 (b.toNat:Int)) hH (Pure.refl _) ?_ (VRel.num (.int .u8 (.c b.toNat)))⟩
     have hg2:s.data[z.toNat]? = some b:=by rw [← Array.getElem?_toList];exact hg
     simp [Instr.index,run_und hu,asIntOf,Z.v,hb1,str_get,hg2]
   | s k'=>
    simp only at h
    cases hc:(inRange (.s k') (.c s.size)).claim S with
    | none=>simp [hc] at h
    | some S1=>
     simp only [hc,Option.some.injEq,Prod.mk.injEq] at h
     obtain ⟨rfl,rfl⟩:=h
     obtain ⟨hp,hv⟩:=inRange_spec hc
     refine ⟨hp,fun ok=>?_⟩
     obtain ⟨hb1,hb2⟩:=hv ok
     simp only [Z.v] at hb1 hb2
     have hl:k'.toNat < s.data.toList.length:=by
      have h1:s.data.toList.length = s.size:=by rw [Array.length_toList];rfl
      rw [h1];omega
     obtain ⟨b,hg⟩:∃ b,s.data.toList[k'.toNat]? = some b:=⟨_,List.getElem?_eq_getElem hl⟩
     have hx:(BitVec.ofNat 8 b.toNat).toNat = b.toNat:=by
      rw [BitVec.toNat_ofNat];exact Nat.mod_eq_of_lt b.toNat_lt
     refine Does.pure (v:=.int .u8 (b.toNat:Int)) hH hp ?_ ?_
     ·have hg2:s.data[k'.toNat]? = some b:=by rw [← Array.getElem?_toList];exact hg
      simp [Instr.index,run_und hu,asIntOf,Z.v,hb1,str_get,hg2]
     ·have:=VRel.num (β:=β) (.w8 (strAt s k'))
      simpa [strAt,Num.val,Num.k,Num.z,Z.v,List.getD_eq_getElem?_getD,hg,hx] using this
  rename_i n e hu
  split at h
  case h_2=>cases h
  rename_i xs
  cases z with
  | s k'=>
   simp only at h
   cases hs:sizeT P e with
   | none=>simp [hs] at h
   | some s=>
   simp only [hs] at h
   split at h
   case h_2=>cases h
   rename_i hg
   cases hm:mapOpt AV.bv64 xs with
   | none=>simp [hm] at h
   | some l=>
   simp only [hm] at h
   split at h
   case h_2=>cases h
   rename_i hb
   rw [Bool.and_eq_true] at hb
   have e1:s = 1:=Nat.eq_of_beq_eq_true hb.1
   have e2:l.length = n:=Nat.eq_of_beq_eq_true hb.2
   subst e1
   cases hc:(inRange (.s k') (.c (n:Int))).claim S with
   | none=>simp [hc] at h
   | some S1=>
   simp only [hc,Option.some.injEq,Prod.mk.injEq] at h
   obtain ⟨rfl,rfl⟩:=h
   obtain ⟨hp,hv⟩:=inRange_spec hc
   refine ⟨hp,fun ok=>?_⟩
   obtain ⟨hb1,hb2⟩:=hv ok
   simp only [Z.v] at hb1 hb2
   obtain ⟨m1,m2⟩:=mapOpt_at hm
   have hk:k'.toNat < l.length:=by omega
   obtain ⟨x,hx,hy⟩:=m2 k'.toNat _ (List.getElem?_eq_getElem hk)
   obtain ⟨vs,rfl,hl⟩:=ha.agg_inv
   have hpart:partOf P e xs (k'.toNat * 1) = some x:=by
    unfold partOf
    rw [hg]
    simp only
    rw [lget_eq,Nat.mul_one];exact hx
   obtain ⟨v,h1,h2⟩:=partOf_spec (P:=P) hpart hl w
   have hyv:v = .int .u64 (l.getD k'.toNat 0#64).toNat:=by
    cases x with
    | num nn=>
     have hy':nn.bv64 = some l[k'.toNat]:=hy
     rw [h2.num_inv,Num.bv64_spec hy']
     simp [List.getD_eq_getElem?_getD,hk]
    | _=>cases hy
   refine Does.pure (v:=v) hH hp ?_ (by rw [hyv];exact .num (.w64 (l.getD k'.toNat 0#64)))
   simp [Instr.index,run_und hu,asIntOf,Z.v,hb1,hb2,sizeT_spec hs] at h1 ⊢
   simpa using h1
  | c z=>
   simp only at h
   split at h
   case h_2=>cases h
   rename_i hb
   rw [intLe_eq,intLt_eq,Bool.and_eq_true] at hb
   have hb1:0 ≤ z:=of_decide_eq_true hb.1
   have hb2:z < (n:Int):=of_decide_eq_true hb.2
   cases hs:sizeT P e with
   | none=>simp [hs] at h
   | some s=>
    simp only [hs,Option.map_eq_some_iff,Prod.mk.injEq] at h
    obtain ⟨r,hr,rfl,rfl⟩:=h
    obtain ⟨vs,rfl,hl⟩:=ha.agg_inv
    obtain ⟨v,h1,h2⟩:=partOf_spec (P:=P) hr hl w
    refine ⟨Pure.refl _,fun _=>Does.pure hH (Pure.refl _) ?_ h2⟩
    simp [Instr.index,run_und hu,asIntOf,Z.v,hb1,hb2,sizeT_spec hs,h1]
theorem arrayPtrOp_spec {t:TypeId} {a x:AV} {va:Value} {S S':St} (h:arrayPtrOp P t a S = some (x,S')) (ha:VRel β a va) (hH:HRel G β S.H w) :
 Pure S S' ∧ (S'.ok → Does P G β S w (Instr.arrayAt t va) x S'):=by
 unfold arrayPtrOp at h
 split at h
 case h_2=>cases h
 rename_i n e hu
 split at h
 ·cases h
 rename_i hn0
 split at h
 case h_2=>cases h
 rename_i b o l cap
 cases hc:(N.le (.c n) l).claim S with
 | none=>simp [hc] at h
 | some S1=>
  simp only [hc,Option.some.injEq,Prod.mk.injEq] at h
  obtain ⟨rfl,rfl⟩:=h
  obtain ⟨hp,hv⟩:=B.claim_spec hc
  refine ⟨hp,fun ok=>?_⟩
  have hv:=hv ok
  rw [N.le_v] at hv
  have hv:n ≤ l.v:=of_decide_eq_true hv
  obtain ⟨a,cp,rfl,g1,g2,g3⟩:=ha.sl_inv
  have hn:n ≠ 0:=fun e=>hn0 e
  rcases g3 with g3 | ⟨L,hL,rfl,g4⟩
  ·omega
  ·refine Does.pure hH hp ?_ (.ptr b o L hL)
   have:¬ (l.v < n):=by omega
   simp [Instr.arrayAt,run_und hu,this]
theorem lenOp_spec {ts:List TypeId} {az:List AV} {vs:List Value} {ty:TypeId} {x:AV} {S:St} (h:lenOp P ts az = some x) (ha:LRel β az vs) (hH:HRel G β S.H w) :
 Does P G β S w (Builtin.len_ ⟨ts⟩ ty ⟨vs⟩) x S:=by
 unfold lenOp at h
 split at h
 case h_2=>cases h
 rename_i t tr
 split at h
 case h_2=>cases h
 rename_i a ar
 obtain ⟨v,vr,rfl,hv,_⟩:=ha.cons_inv
 split at h
 ·rename_i n e hu
  injection h with h;subst h
  exact Does.pure hH (Pure.refl _) (v:=.int .i64 n) (by simp [Builtin.len_,run_und hu,goInt]) (.num (.int .i64 (.c n)))
 ·rename_i e hu
  split at h
  ·injection h with h;subst h
   rename_i b o l cap
   obtain ⟨p,cp,rfl,_⟩:=hv.sl_inv
   refine Does.pure hH (Pure.refl _) (v:=.int .i64 l.toZ.v) (by simp [Builtin.len_,run_und hu,goInt,N.toZ_v]) (.num (.int .i64 l.toZ))
  ·injection h with h;subst h
   rename_i g o l
   obtain ⟨cp,rfl,_⟩:=hv.gs_inv
   refine Does.pure hH (Pure.refl _) (v:=.int .i64 l.toZ.v) (by simp [Builtin.len_,run_und hu,goInt,N.toZ_v]) (.num (.int .i64 l.toZ))
  ·injection h with h;subst h
   rename_i b l s
   obtain ⟨p,cp,rfl,_⟩:=hv.sm_inv
   refine Does.pure hH (Pure.refl _) (v:=.int .i64 l.toZ.v) (by simp [Builtin.len_,run_und hu,goInt,N.toZ_v]) (.num (.int .i64 l.toZ))
  ·injection h with h;subst h
   cases hv
   exact Does.pure hH (Pure.refl _) (v:=.int .i64 0) (by simp [Builtin.len_,run_und hu,goInt]) (.num (.int .i64 (.c 0)))
  ·cases h
 ·rename_i hu
  split at h
  ·injection h with h;subst h
   rename_i s
   cases hv
   exact Does.pure hH (Pure.refl _) (v:=.int .i64 s.size) (by simp [Builtin.len_,run_und hu,goInt]) (.num (.int .i64 (.c s.size)))
  ·cases h
 ·cases h
theorem capOp_spec {ts:List TypeId} {az:List AV} {vs:List Value} {ty:TypeId} {x:AV} {S:St} (h:capOp P ts az = some x) (ha:LRel β az vs) (hH:HRel G β S.H w) :
 Does P G β S w (Builtin.cap_ ⟨ts⟩ ty ⟨vs⟩) x S:=by
 unfold capOp at h
 split at h
 case h_2=>cases h
 rename_i t tr
 split at h
 case h_2=>cases h
 rename_i a ar
 obtain ⟨v,vr,rfl,hv,_⟩:=ha.cons_inv
 split at h
 ·rename_i n e hu
  injection h with h;subst h
  exact Does.pure hH (Pure.refl _) (v:=.int .i64 n) (by simp [Builtin.cap_,run_und hu,goInt]) (.num (.int .i64 (.c n)))
 ·rename_i e hu
  split at h
  ·injection h with h;subst h
   rename_i b o l c
   obtain ⟨p,cp,rfl,_,g2,_⟩:=hv.sl_inv
   have:=g2 c rfl
   refine Does.pure hH (Pure.refl _) (v:=.int .i64 c.toZ.v) (by simp [Builtin.cap_,run_und hu,goInt,N.toZ_v,this]) (.num (.int .i64 c.toZ))
  ·injection h with h;subst h
   cases hv
   exact Does.pure hH (Pure.refl _) (v:=.int .i64 0) (by simp [Builtin.cap_,run_und hu,goInt]) (.num (.int .i64 (.c 0)))
  ·cases h
 ·cases h
theorem min2_spec {mx:Bool} {x y r:AV} {vx vy:Value} {ty:TypeId} {ts:Array TypeId} {S:St} (h:min2 mx x y = some r) (hx:VRel β x vx) (hy:VRel β y vy) (hH:HRel G β S.H w) :
 Does P G β S w (if mx then Builtin.max_ ts ty #[vx,vy] else Builtin.min_ ts ty #[vx,vy]) r S:=by
 unfold min2 at h
 split at h
 case h_2=>cases h
 rename_i k a
 split at h
 case h_2=>cases h
 rename_i k' b
 split at h
 ·cases h
 rename_i hk
 obtain rfl:=kindEq_spec hk
 rw [hx.num_inv,hy.num_inv]
 have e:(if mx = true then a.lt b else b.lt a).v = if mx = true then decide (a.v < b.v) else decide (b.v < a.v):=by cases mx <;> simp [Z.lt_v]
 have key:∀ t:Bool,t = (if mx = true then decide (a.v < b.v) else decide (b.v < a.v)) →
  (if mx then Builtin.max_ ts ty #[Num.val (.int k a),Num.val (.int k b)] else Builtin.min_ ts ty #[Num.val (.int k a),Num.val (.int k b)]).runQ P w = .ok (.int k (if t then b.v else a.v)) w:=by
  intro t ht
  subst ht
  cases mx <;> simp [Builtin.max_,Builtin.min_,Builtin.max2,Builtin.min2,Num.val,Num.k,Num.z]
 split at h
 ·rename_i t ht
  rw [ht] at e
  injection h with h;subst h
  refine Does.pure hH (Pure.refl _) (key t e) ?_
  cases t
  ·exact .num (.int k a)
  ·exact .num (.int k b)
 ·rename_i t ht
  rw [ht] at e
  injection h with h;subst h
  exact Does.pure hH (Pure.refl _) (key t e) (.num (.int k (.s (if t then b.v else a.v))))
theorem eqN_spec {x y:Num} {b:B} (h:eqN x y = some b):x.k = y.k ∧ b.v = (x.z.v == y.z.v):=by
 have w:∀ {n:Nat} (p q:BitVec n),(p == q) = (((p.toNat:Int)) == (q.toNat:Int)):=by
  intro n p q;rw [Bool.eq_iff_iff];simp [BitVec.toNat_eq];omega
 have c8:∀ (x:Num) (y:BitVec 8) (r:B),(x.bv8.map fun x=>B.s (x == y)) = some r → x.k = .u8 ∧ r.v = (x.z.v == (y.toNat:Int)):=by
  intro x y r h
  simp only [Option.map_eq_some_iff] at h
  obtain ⟨a,ha,rfl⟩:=h
  have:=Num.bv8_spec ha
  simp only [Num.val,Value.int.injEq] at this
  exact ⟨this.1,by rw [this.2];exact w a y⟩
 have c16:∀ (x:Num) (y:BitVec 16) (r:B),(x.bv16.map fun x=>B.s (x == y)) = some r → x.k = .u16 ∧ r.v = (x.z.v == (y.toNat:Int)):=by
  intro x y r h
  simp only [Option.map_eq_some_iff] at h
  obtain ⟨a,ha,rfl⟩:=h
  have:=Num.bv16_spec ha
  simp only [Num.val,Value.int.injEq] at this
  exact ⟨this.1,by rw [this.2];exact w a y⟩
 have c32:∀ (x:Num) (y:BitVec 32) (r:B),(x.bv32.map fun x=>B.s (x == y)) = some r → x.k = .u32 ∧ r.v = (x.z.v == (y.toNat:Int)):=by
  intro x y r h
  simp only [Option.map_eq_some_iff] at h
  obtain ⟨a,ha,rfl⟩:=h
  have:=Num.bv32_spec ha
  simp only [Num.val,Value.int.injEq] at this
  exact ⟨this.1,by rw [this.2];exact w a y⟩
 have c64:∀ (x:Num) (y:BitVec 64) (r:B),(x.bv64.map fun x=>B.s (x == y)) = some r → x.k = .u64 ∧ r.v = (x.z.v == (y.toNat:Int)):=by
  intro x y r h
  simp only [Option.map_eq_some_iff] at h
  obtain ⟨a,ha,rfl⟩:=h
  have:=Num.bv64_spec ha
  simp only [Num.val,Value.int.injEq] at this
  exact ⟨this.1,by rw [this.2];exact w a y⟩
 have d8:∀ (x:BitVec 8) (y:Num) (r:B),(y.bv8.map fun y=>B.s (x == y)) = some r → y.k = .u8 ∧ r.v = ((x.toNat:Int) == y.z.v):=by
  intro x y r h
  simp only [Option.map_eq_some_iff] at h
  obtain ⟨a,ha,rfl⟩:=h
  have:=Num.bv8_spec ha
  simp only [Num.val,Value.int.injEq] at this
  exact ⟨this.1,by rw [this.2];exact w x a⟩
 have d16:∀ (x:BitVec 16) (y:Num) (r:B),(y.bv16.map fun y=>B.s (x == y)) = some r → y.k = .u16 ∧ r.v = ((x.toNat:Int) == y.z.v):=by
  intro x y r h
  simp only [Option.map_eq_some_iff] at h
  obtain ⟨a,ha,rfl⟩:=h
  have:=Num.bv16_spec ha
  simp only [Num.val,Value.int.injEq] at this
  exact ⟨this.1,by rw [this.2];exact w x a⟩
 have d32:∀ (x:BitVec 32) (y:Num) (r:B),(y.bv32.map fun y=>B.s (x == y)) = some r → y.k = .u32 ∧ r.v = ((x.toNat:Int) == y.z.v):=by
  intro x y r h
  simp only [Option.map_eq_some_iff] at h
  obtain ⟨a,ha,rfl⟩:=h
  have:=Num.bv32_spec ha
  simp only [Num.val,Value.int.injEq] at this
  exact ⟨this.1,by rw [this.2];exact w x a⟩
 have d64:∀ (x:BitVec 64) (y:Num) (r:B),(y.bv64.map fun y=>B.s (x == y)) = some r → y.k = .u64 ∧ r.v = ((x.toNat:Int) == y.z.v):=by
  intro x y r h
  simp only [Option.map_eq_some_iff] at h
  obtain ⟨a,ha,rfl⟩:=h
  have:=Num.bv64_spec ha
  simp only [Num.val,Value.int.injEq] at this
  exact ⟨this.1,by rw [this.2];exact w x a⟩
 cases x with
 | int k a=>
  cases y with
  | int k' b'=>
   simp only [eqN] at h
   cases hk:kindEq k k' with
   | false=>simp [hk] at h
   | true=>
    simp only [hk,Option.some.injEq] at h
    subst h
    exact ⟨kindEq_spec hk,Z.eq_v a b'⟩
  | w8 y=>exact c8 _ y b h
  | w16 y=>exact c16 _ y b h
  | w32 y=>exact c32 _ y b h
  | w64 y=>exact c64 _ y b h
 | w8 x=>obtain ⟨h1,h2⟩:=d8 x y b h;exact ⟨h1.symm,h2⟩
 | w16 x=>obtain ⟨h1,h2⟩:=d16 x y b h;exact ⟨h1.symm,h2⟩
 | w32 x=>obtain ⟨h1,h2⟩:=d32 x y b h;exact ⟨h1.symm,h2⟩
 | w64 x=>obtain ⟨h1,h2⟩:=d64 x y b h;exact ⟨h1.symm,h2⟩
end
end
section
variable [RowAddr] [Co]
section
variable {P:Program} {G:Nat → Option (List AV)} {β:Map} {w:World}
theorem runQ_equalIn_int (w:World) (d:Nat) (t:TypeId) (k k':IntKind) (a b:Int) (h:P.underlying t = some (.int k')):(Op.equalIn (d + 1) t (.int k a) (.int k b)).runQ P w = .ok (a == b) w:=by
 simp [Op.equalIn,runQ_underlying h]
theorem runQ_equalIn_bool (w:World) (d:Nat) (t:TypeId) (a b:Bool) (h:P.underlying t = some .bool):(Op.equalIn (d + 1) t (.bool a) (.bool b)).runQ P w = .ok (a == b) w:=by
 simp [Op.equalIn,runQ_underlying h]
theorem runQ_eqGuard_agg (w:World) (op:BinOp) (t:TypeId) (x y:Operand) (xs ys:Array Value) (hm:P.eqGuardType P.depth t = false):(eqGuard op t x y (.agg xs) (.agg ys)).runQ P w = .ok () w:=by
 cases op <;> simp [eqGuard,hm]
theorem runQ_sizeOf (w:World) {t:TypeId} {i:TypeInfo} (h:P.info? t = some i):(sizeOf t).runQ P w = .ok (P.cellsOf t) w:=by
 simp [sizeOf,typeInfo,h,Program.cellsOf]
theorem runQ_equalIn_array (w:World) (d:Nat) {t e:TypeId} {n:Nat} {i:TypeInfo} (xs ys:Array Value) (hu:P.underlying t = some (.array n e)) (hi:P.info? e = some i) :
 (Op.equalIn (d + 1) t (.agg xs) (.agg ys)).runQ P w = (Op.eqItems d e (P.cellsOf e) xs ys (List.range n)).runQ P w:=by
 simp only [Op.equalIn,Sem.runQ_bind,runQ_underlying hu,Result.andThen_ok,runQ_sizeOf w hi]
 simp only [Std.Legacy.Range.forIn_eq_forIn_range',Std.Legacy.Range.size,Nat.sub_zero,Nat.add_one_sub_one,Nat.div_one,List.range_eq_range']
 generalize List.range' 0 n = is
 induction is generalizing w with
 | nil=>simp [Op.eqItems]
 | cons j is ih=>
  simp only [List.forIn_cons,Op.eqItems,Sem.runQ_bind]
  generalize (part e xs (j * P.cellsOf e)).runQ P w = r1
  cases r1 with
  | ok a w1=>
   simp only [Result.andThen_ok]
   generalize (part e ys (j * P.cellsOf e)).runQ P w1 = r2
   cases r2 with
   | ok b w2=>
    simp only [Result.andThen_ok]
    generalize (Op.equalIn d e a b).runQ P w2 = r3
    cases r3 with
    | ok r w3=>
     cases r
     ·simp only [Result.andThen_ok,Bool.not_false,if_true,Sem.runQ_pure]
     ·simp only [Result.andThen_ok,Bool.not_true,Bool.false_eq_true,if_false,Sem.runQ_pure]
      exact ih w3
    | halt x w3=>simp [Result.andThen]
   | halt x w2=>simp [Result.andThen]
  | halt x w1=>simp [Result.andThen]
theorem eqItems_spec {e:TypeId} {k:IntKind} (he:P.underlying e = some (.int k)) (d:Nat):∀ (xs ys:List AV) (vs us:List Value) (j m:Nat) (b:B),eqCells xs ys = some b → xs.length = m → LRel β xs (vs.drop j) → LRel β ys (us.drop j) →
 (Op.eqItems (d + 1) e 1 ⟨vs⟩ ⟨us⟩ (List.range' j m)).runQ P w = .ok b.v w
 | [],ys,vs,us,j,m,b,h,hm,h1,h2=>by
  simp only [List.length_nil] at hm;subst hm
  cases ys <;> simp [eqCells] at h
  subst h
  simp [Op.eqItems,B.v]
 | x :: xs,ys,vs,us,j,m,b,h,hm,h1,h2=>by
  cases ys with
  | nil=>simp [eqCells] at h
  | cons y ys=>
   simp only [eqCells] at h
   cases hc:eqCell x y with
   | none=>simp [hc] at h
   | some a=>
    cases hr:eqCells xs ys with
    | none=>simp [hc,hr] at h
    | some r=>
     simp only [hc,hr,Option.some.injEq] at h
     subst h
     obtain ⟨v,vr,hv,g1,g2⟩:=h1.cons_inv
     obtain ⟨u,ur,hu,g3,g4⟩:=h2.cons_inv
     have hvj:vs[j]? = some v:=by
      have:(vs.drop j)[0]? = some v:=by rw [hv];rfl
      simpa using this
     have huj:us[j]? = some u:=by
      have:(us.drop j)[0]? = some u:=by rw [hu];rfl
      simpa using this
     have hvr:vr = vs.drop (j + 1):=by
      have:=congrArg (List.drop 1) hv
      rw [List.drop_drop] at this;simpa [Nat.add_comm] using this.symm
     have hur:ur = us.drop (j + 1):=by
      have:=congrArg (List.drop 1) hu
      rw [List.drop_drop] at this;simpa [Nat.add_comm] using this.symm
     subst hvr hur
     obtain ⟨m',rfl⟩:∃ m',m = m' + 1:=⟨m - 1,by simp at hm;omega⟩
     have ih:=eqItems_spec he d xs ys vs us (j + 1) m' r hr (by simpa using hm) g2 g4
     cases x <;> simp only [eqCell,reduceCtorEq] at hc
     cases y <;> simp only [reduceCtorEq] at hc
     rename_i x y
     obtain ⟨q1,q2⟩:=eqN_spec hc
     have e1:=g1.num_inv
     have e2:=g3.num_inv
     subst e1 e2
     have hag:(isAgg e).runQ P w = .ok false w:=by simp [isAgg,run_und he]
     rw [List.range'_succ]
     simp only [Op.eqItems,Sem.runQ_bind,part,hag,Result.andThen_ok,Bool.false_eq_true,if_false,Nat.mul_one,List.getElem?_toArray,hvj,huj,Sem.runQ_pure]
     have heq:(Op.equalIn (d + 1) e x.val y.val).runQ P w = .ok a.v w:=by
      rw [q2]
      simp only [Num.val]
      rw [← q1]
      exact runQ_equalIn_int w d e x.k k x.z.v y.z.v he
     rw [heq]
     simp only [Result.andThen_ok]
     rw [B.and_v]
     cases hav:a.v
     ·simp
     ·simp only [Bool.not_true,Bool.false_eq_true,if_false,Bool.true_and]
      exact ih
theorem eqArr_run {t e:TypeId} {k:IntKind} {n:Nat} (ht:P.underlying t = some (.array n e)) (he:P.underlying e = some (.int k)) (hs:sizeT P e = some 1) {xs ys:List AV} {vs us:List Value} {b:B}
 (h:eqCells xs ys = some b) (hx:LRel β xs vs) (hy:LRel β ys us) (hn:xs.length = n):(Op.equalIn 10000 t (.agg ⟨vs⟩) (.agg ⟨us⟩)).runQ P w = .ok b.v w:=by
 obtain ⟨i,hi,hsi⟩:=sizeT_info hs
 rw [runQ_equalIn_array w 9999 ⟨vs⟩ ⟨us⟩ ht hi]
 have hc:P.cellsOf e = 1:=by simp [Program.cellsOf,hi,hsi]
 rw [hc,List.range_eq_range']
 exact eqItems_spec (P:=P) (w:=w) he 9998 xs ys vs us 0 n b h hn (by simpa using hx) (by simpa using hy)
theorem eqGuard_arr {op:BinOp} {t e:TypeId} {k:IntKind} {n:Nat} (ht:P.underlying t = some (.array n e)) (he:P.underlying e = some (.int k)) (x y:Operand) (xs ys:Array Value) :
 (eqGuard op t x y (.agg xs) (.agg ys)).runQ P w = .ok () w:=by
 refine runQ_eqGuard_agg w op t x y xs ys ?_
 have:∃ d,P.depth = d + 2:=⟨2 * (P.types.size + Made.depth),rfl⟩
 obtain ⟨d,hd⟩:=this
 rw [hd]
 simp [Program.eqGuardType,ht,he]
theorem run_eq_iface_nil {t:TypeId} {ms:Array (String × TypeId)} (ht:P.underlying t = some (.interface ms)) (d:Nat) (u:TypeId) (x:Value) :
 (Op.equalIn (d + 1) t (.iface u x) .nilIface).runQ P w = .ok false w ∧ (Op.equalIn (d + 1) t .nilIface (.iface u x)).runQ P w = .ok false w ∧ (Op.equalIn (d + 1) t .nilIface .nilIface).runQ P w = .ok true w:=by
 simp [Op.equalIn,run_und ht]
theorem eqOpE_spec {op:BinOp} (hop:op = .eql ∨ op = .neq) {t:TypeId} {ox oy:Operand} {x y:AV} {vx vy:Value} {b:B} (h:eqOpE P t (isConst ox || isConst oy) x y = some b) (hx:VRel β x vx) (hy:VRel β y vy) :
 ((eqGuard op t ox oy vx vy).runQ P w = .ok () w) ∧ (binOp op t vx vy).runQ P w = .ok (.bool (if op = .eql then b.v else !b.v)) w:=by
 have fin:∀ (u v:Value),(∀ t a b,binOp .eql t u v = (do pure (.bool (← Op.equal t u v))) ∧ binOp .neq t u v = (do pure (.bool (!(← Op.equal t u v)))) ∨ (a:Nat) = b + 1) → True:=fun _ _ _=>trivial
 have conv:∀ {r:Bool},(Op.equalIn 10000 t vx vy).runQ P w = .ok r w → (binOp .eql t vx vy = do pure (.bool (← Op.equal t vx vy))) → (binOp .neq t vx vy = do pure (.bool (!(← Op.equal t vx vy)))) → (binOp op t vx vy).runQ P w = .ok (.bool (if op = .eql then r else !r)) w:=by
  intro r hr h1 h2
  rcases hop with rfl | rfl
  ·rw [h1];simp [Op.equal,Op.maxDepth,hr]
  ·rw [h2];simp [Op.equal,Op.maxDepth,hr]
 unfold eqOpE at h
 split at h
 ·rename_i hn
  rw [Bool.and_eq_true] at hn
  have ex:x = .atom .nili:=by
   have:=hn.1;unfold isNili at this;split at this;rfl;cases this
  have ey:y = .atom .nili:=by
   have:=hn.2;unfold isNili at this;split at this;rfl;cases this
  subst ex ey
  cases hx;cases hy
  split at h
  case h_2=>cases h
  rename_i hk
  split at h
  case h_2=>cases h
  rename_i ms ht
  injection h with h;subst h
  refine ⟨?_,?_⟩
  ·rw [Bool.or_eq_true] at hk
   rcases hk with hk | hk
   ·cases ox <;> simp [isConst] at hk
    rw [eqGuard_nil_constL];rfl
   ·cases oy <;> simp [isConst] at hk
    rw [eqGuard_nil_constR];rfl
  ·exact conv (run_eq_iface_nil (P:=P) (w:=w) ht 9999 0 .nilFunc).2.2 rfl rfl
 ·rename_i hnf
  clear hnf
  unfold eqOp at h
  split at h
  ·rename_i xs
   split at h
   case h_2=>cases h
   rename_i ys
   split at h
   case h_2=>cases h
   rename_i n e ht
   split at h
   case h_2=>cases h
   rename_i k he
   split at h
   case h_2=>cases h
   rename_i hs
   split at h
   case h_2=>cases h
   rename_i hn
   obtain ⟨vs,rfl,hxl⟩:=hx.agg_inv
   obtain ⟨us,rfl,hyl⟩:=hy.agg_inv
   have hn:xs.length = n:=by simpa using hn
   exact ⟨eqGuard_arr ht he ox oy _ _,conv (eqArr_run ht he hs h hxl hyl hn) rfl rfl⟩
  ·rename_i a
   split at h
   case h_2=>cases h
   rename_i b'
   split at h
   case h_2=>cases h
   rename_i ht
   injection h with h;subst h
   rw [hx.bool_inv,hy.bool_inv] at conv ⊢
   have e:(eqB a b').v = (a.v == b'.v):=by cases a <;> cases b' <;> rfl
   rw [eqGuard_at_bool]
   refine ⟨rfl,?_⟩
   rw [e]
   exact conv (runQ_equalIn_bool w 9999 t a.v b'.v ht) rfl rfl
  ·split at h
   case h_2=>cases h
   split at h
   case h_2=>cases h
   rename_i ms ht
   injection h with h;subst h
   cases hx
   cases hy
   rw [eqGuard_nil_iface]
   exact ⟨rfl,conv (run_eq_iface_nil (P:=P) (w:=w) ht 9999 _ _).2.1 rfl rfl⟩
  ·split at h
   case h_2=>cases h
   split at h
   case h_2=>cases h
   rename_i ms ht
   injection h with h;subst h
   cases hx
   cases hy
   rw [eqGuard_at_iface]
   exact ⟨rfl,conv (run_eq_iface_nil (P:=P) (w:=w) ht 9999 _ _).1 rfl rfl⟩
  ·cases h
theorem binOpE_spec {op:BinOp} {t:TypeId} {ox oy:Operand} {x y r:AV} {vx vy:Value} {S S':St} (h:binOpE P op t ox oy x y S = some (r,S')) (hx:VRel β x vx) (hy:VRel β y vy) (hH:HRel G β S.H w) :
 Pure S S' ∧ (S'.ok → Does P G β S w (do eqGuard op t ox oy vx vy;binOp op t vx vy) r S'):=by
 unfold binOpE at h
 cases hb:binop op x y S with
 | some r'=>
  simp only [hb,Option.some.injEq] at h
  subst h
  obtain ⟨a,b,rfl,rfl,hp,hv⟩:=binop_sound (P:=P) w hb t
  refine ⟨hp,fun ok=>?_⟩
  obtain ⟨v,h1,h2⟩:=hv ok
  rw [hx.num_inv,hy.num_inv]
  refine Does.pure hH hp (v:=v) ?_ (VRel.of_n h2)
  rw [show eqGuard op t ox oy a.val b.val = pure () from eqGuard_at_int _ _ _ _ _ _ _]
  simpa using h1
 | none=>
  simp only [hb] at h
  cases he:eqOpE P t (isConst ox || isConst oy) x y with
  | none=>simp [he] at h
  | some b=>
   simp only [he] at h
   cases op <;> simp only [Option.some.injEq,Prod.mk.injEq,reduceCtorEq] at h <;> obtain ⟨rfl,rfl⟩:=h
   ·obtain ⟨h1,h2⟩:=eqOpE_spec (P:=P) (w:=w) (.inl rfl) he hx hy
    refine ⟨Pure.refl _,fun _=>Does.pure hH (Pure.refl _) (v:=.bool b.v) ?_ (.bool b)⟩
    simp only [Sem.runQ_bind,h1,Result.andThen_ok,h2];rfl
   ·obtain ⟨h1,h2⟩:=eqOpE_spec (P:=P) (w:=w) (.inr rfl) he hx hy
    refine ⟨Pure.refl _,fun _=>Does.pure hH (Pure.refl _) (v:=.bool b.not.v) ?_ (.bool b.not)⟩
    simp only [Sem.runQ_bind,h1,Result.andThen_ok,h2,B.not_v];rfl
end
end
section
variable [RowAddr] [Co]
section
variable {P:Program} {G:Nat → Option (List AV)} {β:Map} {w:World}
theorem run_wide_fit {t u ty e:TypeId} {i:TypeInfo} {d:TypeDesc} {a:Addr} {sLen sCap n s:Nat} {x:Value} {vs:List Value} {w':World} (ht:P.underlying t = some (.slice e)) (hu:P.underlying u = some d) (hd:notInt d)
 (hi:P.info? e = some i) (hs:i.size = s) (hlen:∀ w,(Builtin.lenOf x).runQ P w = .ok n w) (hf:(Builtin.firstCells s n x).runQ P w = .ok ⟨vs⟩ w) (hfit:sLen + n ≤ sCap)
 (hst:(storeCells (a.add (sLen * s)) vs).runQ P w = .ok () w') :
 (Builtin.append_ #[t,u] ty #[.slice (some a) sLen sCap,x]).runQ P w = .ok (.slice (some a) (sLen + n) sCap) w':=by
 subst hs
 rcases hd with ⟨e',rfl⟩ | rfl
 ·simp [Builtin.append_,run_und ht,run_und hu,sizeOf,typeInfo,hi,hlen,hf,hfit,hst]
 ·simp [Builtin.append_,run_und ht,run_und hu,sizeOf,typeInfo,hi,hlen,hf,hfit,hst]
theorem run_wide_more {t u ty e:TypeId} {i:TypeInfo} {z:Value} {d:TypeDesc} {base:Option Addr} {sLen sCap n s:Nat} {x:Value} {olds vs:List Value} (ht:P.underlying t = some (.slice e)) (hu:P.underlying u = some d) (hd:notInt d)
 (hi:P.info? e = some i) (hz:i.zero = some z) (hs:i.size = s) (hlen:∀ w,(Builtin.lenOf x).runQ P w = .ok n w) (hf:(Builtin.firstCells s n x).runQ P w.drew = .ok ⟨vs⟩ w.drew)
 (ho:(Builtin.firstCells s sLen (.slice base sLen sCap)).runQ P w.drew = .ok ⟨olds⟩ w.drew) (hmore:sCap < sLen + n) (hbytes:(sLen + n) * i.bytes ≤ 1099511627776) (hb0:i.bytes ≠ 0) :
 (Builtin.append_ #[t,u] ty #[.slice base sLen sCap,x]).runQ P w =
  .ok (.slice (some (at' w.heap.size 0)) (sLen + n) (grownCap w (sLen + n) sCap e))
   (w.drew.alloc (.cells ⟨olds ++ vs ++ (Builtin.zeroCells z.cells (grownCap w (sLen + n) sCap e - (sLen + n))).toList⟩ e)):=by
 subst hs
 have h0:¬ (sLen + n ≤ sCap):=by omega
 have hle:sLen + n ≤ (sLen + n) * i.bytes:=Nat.le_mul_of_pos_right _ (by omega)
 have h63:¬ (9223372036854775807 < ((sLen:Int) + (n:Int))):=by omega
 have h48:¬ (281474976710656 < Builtin.nextslicecap (sLen + n) sCap * i.bytes):=by have:=growslice_fits hmore (bytes:=i.bytes) (by omega);omega
 rcases hd with ⟨e',rfl⟩ | rfl
 ·simp [Builtin.append_,run_und ht,run_und hu,sizeOf,typeInfo,zeroValue,hi,hz,hlen,h0,h63,h48,hb0,Question.forced,hf,ho,newRow,grownCap,at']
  congr 2;apply Array.ext';simp
 ·simp [Builtin.append_,run_und ht,run_und hu,sizeOf,typeInfo,zeroValue,hi,hz,hlen,h0,h63,h48,hb0,Question.forced,hf,ho,newRow,grownCap,at']
  congr 2;apply Array.ext';simp
theorem appendRow_spec {t u ty e:TypeId} {i:TypeInfo} {z:Value} {d:TypeDesc} {x:AV} {vx vy:Value} {S S2:St} {s:Nat} {cs:List AV} {r:AV} {us:List Value}
 (ht:P.underlying t = some (.slice e)) (hu:P.underlying u = some d) (hd:notInt d) (hi:P.info? e = some i) (hz:i.zero = some z) (hs:i.size = s) (hzs:z.cells.size = s) (hb0:i.bytes ≠ 0)
 (hlen:∀ w,(Builtin.lenOf vy).runQ P w = .ok 1 w) (hf:∀ w':World,(∀ a,w'.cell? a = w.cell? a) → (Builtin.firstCells s 1 vy).runQ P w' = .ok ⟨us⟩ w') (hul:us.length = s) (hcl:cs.length = s) (hxr:LRel β cs us)
 (hone:∀ v ∈ us,v.oneCell' = true) (hsv:VRel β x vx) (hH:HRel G β S.H w) (h:appendRow x s i.bytes cs S = some (r,S2)) :
 (S2.ok → S.ok) ∧ (S2.ok → Does P G β S w (Builtin.append_ #[t,u] ty #[vx,vy]) r S2):=by
 have grow:∀ (dd:Data) (olds:List Value) (a:Option Addr) (l cp:Nat) (H0:List Blk),olds.length = l * s → LRel β dd.list (olds ++ us) → dd.len = (l + 1) * s → cp < l + 1 → (l + 1) * i.bytes ≤ 1099511627776 →
  (Builtin.firstCells s l (.slice a l cp)).runQ P w.drew = .ok ⟨olds⟩ w.drew →
  HRel G β H0 w → Stp β S.H w β H0 w → H0.length = S.H.length → ∀ k:N,k.v = l + 1 →
  ∃ v w',(Builtin.append_ #[t,u] ty #[.slice a l cp,vy]).runQ P w = .ok v w' ∧ Far w w' ∧ (New w w' → ∃ β',VRel β' (.ref (.sm S.H.length k s)) v ∧ HRel G β' (H0 ++ [⟨dd,.own⟩]) w' ∧ Stp β S.H w β' (H0 ++ [⟨dd,.own⟩]) w'):=by
  intro dd olds a l cp H0 hol hrel hdl hmore hbytes ho hH0 hS0 hlen0 k hk
  have hrun:=run_wide_more (P:=P) (w:=w) (base:=a) (ty:=ty) ht hu hd hi hz hs hlen (hf w.drew (fun a=>rfl)) ho hmore hbytes hb0
  have hzl:(Builtin.zeroCells z.cells (grownCap w (l + 1) cp e - (l + 1))).toList.length = (grownCap w (l + 1) cp e - (l + 1)) * s:=by simp [Builtin.zeroCells,hzs]
  have h1s:(l + 1) * s = l * s + s:=by rw [Nat.succ_mul]
  have hnew:=hH0.drew.new dd (olds ++ us ++ (Builtin.zeroCells z.cells (grownCap w (l + 1) cp e - (l + 1))).toList) e (by rw [List.length_append,List.length_append];omega) (by
   rw [List.take_append_of_le_length (by rw [List.length_append];omega),List.take_of_length_le (by rw [List.length_append];omega)]
   exact hrel)
  refine ⟨_,_,hrun,far_alloc_drew _ _,fun hn=>?_⟩
  have hnew:=hnew (new_alloc_drew hn)
  refine ⟨_,?_,hnew.1,(hS0.trans (Stp.drew β H0 w)).trans hnew.2⟩
  have hg:=le_grownCap w (l + 1) cp e
  have hroom:grownCap w (l + 1) cp e * s = (l + 1) * s + (grownCap w (l + 1) cp e - (l + 1)) * s:=by
   rw [← Nat.add_mul];congr 1;omega
  have hv:=VRel.sm (β:=β.put H0.length ⟨w.heap.size,0,(olds ++ us ++ (Builtin.zeroCells z.cells (grownCap w (l + 1) cp e - (l + 1))).toList).length⟩) H0.length k s (some (at' w.heap.size 0)) (grownCap w (l + 1) cp e)
   (by rw [hk];exact hg) (.inr ⟨_,Map.put_same ..,rfl,by
    show grownCap w (l + 1) cp e * s ≤ (olds ++ us ++ _).length
    rw [List.length_append,List.length_append,hzl,hol,hul];omega⟩)
  rw [hk,hlen0] at hv
  rw [← hlen0] at hv ⊢
  exact hv
 unfold appendRow at h
 split at h
 ·
  cases hsv
  split at h
  case h_2=>cases h
  rename_i S1 hc
  obtain ⟨hp,hv⟩:=B.claim_spec hc
  simp only [Option.some.injEq,Prod.mk.injEq] at h
  obtain ⟨rfl,rfl⟩:=h
  refine ⟨fun o=>hp.ok o,fun ok=>?_⟩
  have hb:(1:Nat) * i.bytes ≤ 1099511627776:=by
   have:=hv ok
   simpa [N.fits,N.le,N.mulc,B.v] using this
  obtain ⟨v,w',q1,qf,q2⟩:=grow (.gen cs) [] none 0 0 S.H (by simp) (show LRel β (Data.gen cs).list ([] ++ us) from hxr) (by show cs.length = _;omega) (by omega) (by simpa using hb) (runQ_firstCells_none P _ s 0 _ _) hH (Stp.refl ..) rfl (.c 1) rfl
  refine ⟨v,w',q1,qf,fun hn=>?_⟩
  obtain ⟨β',q2,q3,q4⟩:=q2 hn
  refine ⟨β',by rw [hp.H];exact q2,?_,?_⟩
  ·show HRel G β' (S1.H ++ _) w';rw [hp.H];exact q3
  ·show Stp β S.H w β' (S1.H ++ _) w';rw [hp.H];exact q4
 ·rename_i b l s'
  split at h
  ·cases h
  rename_i hss
  have hss:s' = s:=by simpa using hss
  subst hss
  simp only [lget_eq] at h
  split at h
  case h_2=>cases h
  rename_i dd m hbm
  cases m <;> simp only [reduceCtorEq] at h
  split at h
  case h_2=>cases h
  rename_i S1 hc1
  obtain ⟨hp1,hv1⟩:=B.claim_spec hc1
  split at h
  case h_2=>cases h
  rename_i S3 hc2
  obtain ⟨hp3,hv3⟩:=B.claim_spec hc2
  cases ha:dd.app (.gen cs) with
  | none=>simp [ha] at h
  | some d'=>
   simp only [ha,Option.some.injEq,Prod.mk.injEq] at h
   obtain ⟨rfl,rfl⟩:=h
   have hp:=hp1.trans hp3
   refine ⟨fun o=>hp.ok o,fun ok=>?_⟩
   have h3:=hv3 ok
   have h1:=hv1 (hp3.ok ok)
   obtain ⟨a,cp,rfl,g1,g3⟩:=hsv.sm_inv
   have hll:l.v * s' = dd.len:=by
    cases l <;> simpa [N.eq,N.mulc,B.v,N.v] using h1
   have hbytes:(l.v + 1) * i.bytes ≤ 1099511627776:=by
    cases l with
    | c x=>exact Nat.le_of_ble_eq_true h3
    | s x=>exact of_decide_eq_true h3
   obtain ⟨a1,a2⟩:=Data.app_spec ha
   have hkill:(S3.kill b).H = S.H.set b ⟨.gen [],.dead⟩:=by simp [St.kill,lset_eq,hp.H]
   have hHk:HRel G β (S.H.set b ⟨.gen [],.dead⟩) w:=hH.kill b _
   have hl1:(l.add (.c 1)).v = l.v + 1:=N.add_v ..
   have hdl:d'.len = (l.v + 1) * s':=by
    have:(Data.gen cs).len = cs.length:=rfl
    rw [a1,this,Nat.succ_mul];omega
   rcases hH.blk b _ hbm (own_alive rfl) with ⟨L,hL,hbr⟩ | ⟨hno,hn⟩
   ·obtain ⟨h0,hmi,vs,tt,fz,hh,hfz,hvl,hdl0,hrr⟩:=(show OOk β dd L w from hbr)
    by_cases hfit:l.v + 1 ≤ cp
    ·rcases g3 with g3 | ⟨L',hL',rfl,g4⟩
     ·omega
     ·rw [hL] at hL';injection hL' with e;subst e
      have hm:(l.v + 1) * s' ≤ cp * s':=Nat.mul_le_mul_right _ hfit
      rw [Nat.succ_mul] at hm
      have hst:=run_storeCells_atG P L.c (l.v * s') tt fz hmi us 0 ⟨vs⟩ w hh hfz (by simp;omega) hone
      simp only [Nat.add_zero] at hst
      have hrel:LRel β d'.list ((Eng.over vs (l.v * s') us).take d'.len):=by
       have:=a2 hrr hxr
       have e2:vs.take dd.len ++ us = (Eng.over vs (l.v * s') us).take d'.len:=by
        rw [hdl,hll,Nat.succ_mul,hll]
        have hl2:(vs.take dd.len ++ us).length = dd.len + s':=by rw [List.length_append,List.length_take,hul];omega
        show _ = (vs.take dd.len ++ us ++ vs.drop (dd.len + us.length)).take (dd.len + s')
        rw [List.take_append_of_le_length (by omega)]
        exact (List.take_of_length_le (by omega)).symm
       rw [← e2];exact this
      have hmv:=hH.move hbm hL (Eng.over vs (l.v * s') us) (by rw [over_len _ _ _ (by omega),hvl]) (by rw [hdl,Nat.succ_mul];omega) hrel (.gen [])
      refine ⟨.slice (some (at' L.c L.base)) (l.v + 1) cp,w.setRow L.c ⟨Eng.over vs (l.v * s') us⟩,?_,far_setRow w hmi _,fun _=>⟨β.put S.H.length L,?_,?_,?_⟩⟩
      ·refine run_wide_fit (ty:=ty) ht hu hd hi hs hlen (hf w (fun _=>rfl)) hfit ?_
       rw [add_at,show at' L.c (L.base + l.v * s') = ⟨L.c,l.v * s',none⟩ by simp [at',h0]]
       exact hst
      ·have hS3:S3.H.length = S.H.length:=by rw [hp.H]
       have:=VRel.sm (β:=β.put S.H.length L) S3.H.length (l.add (.c 1)) s' (some (at' L.c L.base)) cp (by rw [hl1];exact hfit)
        (.inr ⟨L,by rw [hS3];exact Map.put_same ..,rfl,g4⟩)
       rw [hl1] at this;exact this
      ·show HRel G _ ((S3.kill b).H ++ _) _;rw [hkill];exact hmv.1
      ·show Stp β S.H w _ ((S3.kill b).H ++ _) _;rw [hkill];exact hmv.2
    ·have hold:∃ olds:List Value,olds.length = l.v * s' ∧ LRel β dd.list olds ∧ (Builtin.firstCells s' l.v (.slice a l.v cp)).runQ P w.drew = .ok ⟨olds⟩ w.drew:=by
      rcases g3 with g3 | ⟨L',hL',rfl,g4⟩
      ·have hl0:l.v = 0:=by omega
       have hd0:dd.len = 0:=by rw [← hll,hl0,Nat.zero_mul]
       have hdn:dd.list = []:=List.eq_nil_of_length_eq_zero (by rw [Data.list_len];exact hd0)
       refine ⟨[],by rw [hl0];simp,by rw [hdn];exact LRel.nil β,?_⟩
       rw [hl0]
       cases a with
       | none=>exact runQ_firstCells_none P _ s' 0 _ _
       | some a=>exact runQ_firstCells_some P _ s' 0 a _ _ [] (by simp) (fun j v hv=>by simp at hv) (fun j hj=>absurd hj (Nat.not_lt_zero _))
      ·rw [hL] at hL';injection hL' with e;subst e
       obtain ⟨vs1,v1,v2,v3,v4⟩:=block_cells hH hbm (by intro h;cases h) hL (o:=0) (n:=dd.len) (by omega)
       rw [List.drop_zero,List.take_of_length_le (by rw [Data.list_len];exact Nat.le_refl _)] at v2
       refine ⟨vs1,by omega,v2,runQ_firstCells_some P _ s' l.v _ _ _ vs1 (by omega) (fun j v hv=>?_) (fun j hj=>by have:=v4 j (by omega);rw [Nat.add_zero] at this;exact this)⟩
       have:=v3 j v hv
       rw [Nat.add_zero] at this
       exact this
     obtain ⟨olds,e1,e2,e3⟩:=hold
     obtain ⟨v,w',q1,qf,q2⟩:=grow d' olds a l.v cp (S.H.set b ⟨.gen [],.dead⟩) e1 (a2 e2 hxr) hdl (by omega) hbytes e3 hHk (Stp.kill b _) (by simp) (l.add (.c 1)) hl1
     refine ⟨v,w',q1,qf,fun hn=>?_⟩
     obtain ⟨β',q2,q3,q4⟩:=q2 hn
     refine ⟨β',by rw [hp.H];exact q2,?_,?_⟩
     ·show HRel G β' ((S3.kill b).H ++ _) w';rw [hkill];exact q3
     ·show Stp β S.H w β' ((S3.kill b).H ++ _) w';rw [hkill];exact q4
   ·have hcp:cp = 0:=by
     rcases g3 with g3 | ⟨L',hL',_⟩
     ·exact g3
     ·rw [hn] at hL';cases hL'
    have hl0:l.v = 0:=by omega
    have hdn:dd.list = []:=List.eq_nil_of_length_eq_zero (by rw [Data.list_len];exact hno)
    have e3:(Builtin.firstCells s' l.v (.slice a l.v cp)).runQ P w.drew = .ok ⟨[]⟩ w.drew:=by
     rw [hl0]
     cases a with
     | none=>exact runQ_firstCells_none P _ s' 0 _ _
     | some a=>exact runQ_firstCells_some P _ s' 0 a _ _ [] (by simp) (fun j v hv=>by simp at hv) (fun j hj=>absurd hj (Nat.not_lt_zero _))
    obtain ⟨v,w',q1,qf,q2⟩:=grow d' [] a l.v cp (S.H.set b ⟨.gen [],.dead⟩) (by rw [hl0];simp) (a2 (by rw [hdn];exact LRel.nil β) hxr) hdl (by omega) hbytes e3 hHk (Stp.kill b _) (by simp) (l.add (.c 1)) hl1
    refine ⟨v,w',q1,qf,fun hn=>?_⟩
    obtain ⟨β',q2,q3,q4⟩:=q2 hn
    refine ⟨β',by rw [hp.H];exact q2,?_,?_⟩
    ·show HRel G β' ((S3.kill b).H ++ _) w';rw [hkill];exact q3
    ·show Stp β S.H w β' ((S3.kill b).H ++ _) w';rw [hkill];exact q4
 ·cases h
theorem oneRow_spec {y:AV} {vy:Value} {s:Nat} {S:St} {cs:List AV} (h:oneRow y s S = some cs) (hy:VRel β y vy) (hH:HRel G β S.H w) :
 ∃ us:List Value,us.length = s ∧ cs.length = s ∧ LRel β cs us ∧ (∀ w,(Builtin.lenOf vy).runQ P w = .ok 1 w) ∧ (∀ w':World,(∀ a,w'.cell? a = w.cell? a) → (Builtin.firstCells s 1 vy).runQ P w' = .ok ⟨us⟩ w') ∧ ∀ v ∈ us,v.oneCell' = true:=by
 unfold oneRow at h
 split at h
 case h_2=>cases h
 rename_i b o l c
 split at h
 case h_2=>cases h
 split at h
 case h_2=>cases h
 rename_i cs' hr
 split at h
 case h_2=>cases h
 rename_i hb
 injection h with h;subst h
 simp only [Bool.and_eq_true] at hb
 have hcl:cs'.length = s:=by simpa using hb.1
 obtain ⟨m,hbm,hm⟩:=St.read_spec hr
 obtain ⟨a,cp,rfl,g1,g2,g3⟩:=hy.sl_inv
 have g1:1 ≤ cp:=g1
 rcases g3 with g3 | ⟨L,hL,rfl,g4⟩
 ·omega
 ·obtain ⟨us,v1,v2,v3,v4⟩:=block_cells hH hbm hm hL (o:=0) (n:=s) (by show 0 + s ≤ cs'.length;omega)
  have v2:LRel β cs' us:=by
   have:((Data.gen cs').list.drop 0).take s = cs':=by
    show (cs'.drop 0).take s = cs'
    rw [List.drop_zero,List.take_of_length_le (by omega)]
   rw [this] at v2;exact v2
  refine ⟨us,v1,hcl,v2,fun w=>lenN_spec (l:=.c 1) (x:=.ref (.sl b (.c 0) (.c 1) c)) rfl hy w,fun w' hw'=>?_,singles_spec (d:=.gen cs') hb.2 v2⟩
  refine runQ_firstCells_some P _ s 1 _ _ _ us (by omega) (fun j v hv=>?_) (by rw [v1];exact v4)
  rw [hw']
  exact v3 j v hv
theorem appendE_spec {ts:List TypeId} {az:List AV} {vs:List Value} {ty:TypeId} {x:AV} {S S':St} (h:appendE P ts az S = some (x,S')) (ha:LRel β az vs) (hH:HRel G β S.H w) :
 (S'.ok → S.ok) ∧ (S'.ok → Does P G β S w (Builtin.append_ ⟨ts⟩ ty ⟨vs⟩) x S'):=by
 unfold appendE at h
 split at h
 ·rename_i r hr
  injection h with h;subst h
  exact appendOp_spec hr ha hH
 ·unfold appendBig at h
  split at h
  case h_2=>cases h
  rename_i t u
  split at h
  case h_2=>cases h
  rename_i e s he
  obtain ⟨ht,hse⟩:=elemT_spec he
  split at h
  ·cases h
  split at h
  case h_1=>cases h
  case h_2=>cases h
  rename_i i zr hi hzr
  obtain ⟨i',z,hi',hz,_,_,hzs⟩:=zeroRow_spec hzr β
  rw [hi] at hi';injection hi' with hi';subst hi'
  obtain ⟨i',hi',hs⟩:=sizeT_info hse
  rw [hi] at hi';injection hi' with hi';subst hi'
  rw [hs] at hzs
  split at h
  ·cases h
  rename_i hb0
  have hb0:i.bytes ≠ 0:=by intro e;rw [e] at hb0;cases hb0
  split at h
  ·cases h
  rename_i hu
  obtain ⟨d,hu,hd⟩:=sliceOrString_spec hu
  split at h
  case h_2=>cases h
  rename_i x y
  obtain ⟨vx,vr,rfl,hsv,hr⟩:=ha.cons_inv
  obtain ⟨vy,vr',rfl,hyv,hr'⟩:=hr.cons_inv
  have:=hr'.nil_inv;subst this
  split at h
  case h_2=>cases h
  rename_i cs hcs
  obtain ⟨us,k1,k2,k3,k4,k5,k6⟩:=oneRow_spec (P:=P) hcs hyv hH
  exact appendRow_spec ht hu hd hi hz hs hzs hb0 k4 k5 k1 k2 k3 k6 hsv hH h
end
end
section
variable [RowAddr] [Co]
section
variable {G:Nat → Option (List AV)} {β:Map} {w:World}
theorem evL_rel {ev:Operand → AV} {ρ:Operand → Value} (h:∀ x,VRel β (ev x) (ρ x)):∀ l:List Operand,LRel β (evL ev l) (l.map ρ)
 | []=>LRel.nil β
 | x :: l=>LRel.cons (h x) (evL_rel h l)
theorem evP_rel {ev:Operand → AV} {ρ:Operand → Value} (h:∀ x,VRel β (ev x) (ρ x)):∀ l:List (Nat × Operand),PRel β (evP ev l) (l.map fun p=>(p.1,ρ p.2))
 | []=>⟨rfl,fun i p v hp=>by simp [evP] at hp⟩
 | (k,x) :: l=>by
  obtain ⟨h1,h2⟩:=evP_rel h l
  refine ⟨by simp [evP,h1],fun i p v hp hv=>?_⟩
  cases i with
  | zero=>simp [evP] at hp hv;subst hp hv;exact ⟨rfl,h x⟩
  | succ i=>exact h2 i p v (by simpa [evP] using hp) (by simpa using hv)
theorem evO_rel {ev:Operand → AV} {ρ:Operand → Value} (h:∀ x,VRel β (ev x) (ρ x)) (o:Option Operand):ORel β (evO ev o) (o.map ρ):=by
 cases o with
 | none=>trivial
 | some x=>exact h x
def DoesO (P:Program) (G:Nat → Option (List AV)) (β:Map) (S:St) (w:World) (s:Sem Next) (x:AV) (S':St):Prop:=
 ∃ r v w',s.runQ P w = .ok r w' ∧ (r = .value v ∨ r = .skip ∧ v = undef) ∧ Far w w' ∧ (New w w' → ∃ β',VRel β' x v ∧ HRel G β' S'.H w' ∧ Stp β S.H w β' S'.H w')
theorem does_o {P:Program} {S S':St} {s:Sem Value} {x:AV} (h:Does P G β S w s x S'):DoesO P G β S w (do pure (Next.value (← s))) x S':=by
 obtain ⟨v,w',h1,h2,h3⟩:=h
 exact ⟨.value v,v,w',by simp [h1],.inl rfl,h2,h3⟩
theorem doesU_o {P:Program} {S S':St} {s:Sem Unit} (h:DoesU P G β S w s S'):DoesO P G β S w (do s;pure Next.skip) .undef S':=by
 obtain ⟨w',h1,h2,h3⟩:=h
 exact ⟨.skip,undef,w',by simp [h1],.inr ⟨rfl,rfl⟩,h2,fun hn=>let ⟨β',g1,g2⟩:=h3 hn;⟨β',.undef _,g1,g2⟩⟩
theorem DoesO.val {P:Program} {S:St} {v:Value} {x:AV} (hH:HRel G β S.H w) (h:VRel β x v):DoesO P G β S w (pure (Next.value v)) x S:=
 ⟨.value v,v,w,rfl,.inl rfl,Far.refl w,fun _=>⟨β,h,hH,Stp.refl ..⟩⟩
theorem val_some {S S':St} {o:Option AV} {x:AV} (h:val S o = some (x,S')):o = some x ∧ S' = S:=by
 cases o with
 | none=>simp [val] at h
 | some y=>simp [val] at h;exact ⟨by rw [h.1],h.2.symm⟩
class ExtOk (C:Cfg):Prop where
 ok:∀ f args v,C.ext f args = some v → ∀ (β:Map) vs w,LRel β args vs → ∃ u,VRel β v u ∧ (callFunc f ⟨vs⟩).runQ C.P w = .ok (.value u) w
 nila:∀ t m f,C.meth t m = some f → ∀ (p:Addr) w,(nilAhead (C.P.types.size + Made.depth) t (.pointer (some p)) m).runQ C.P w = .ok (some false) w
theorem plain_spec {C:Cfg} [ExtOk C] (hG:C.glob = G) {o:Oper} {f:(Operand → AV) → St → Option (AV × St)} {ev:Operand → AV} {ρ:Operand → Value} {x:AV} {S S':St} (hf:opF C o.op = .run f) (h:f ev S = some (x,S'))
 (hev:∀ x,VRel β (ev x) (ρ x)) (hH:HRel G β S.H w):(S'.ok → S.ok) ∧ (S'.ok → DoesO C.P G β S w (execOp ρ o) x S'):=by
 obtain ⟨dst,op,ty,pos,after,guard⟩:=o
 simp only at hf
 cases op <;> simp only [opF,OpF.run.injEq,reduceCtorEq] at hf <;> subst hf <;> (try (simp at h;done)) <;> (try dsimp only at h)
 case move a=>
  simp only [Option.some.injEq,Prod.mk.injEq] at h
  obtain ⟨rfl,rfl⟩:=h
  exact ⟨id,fun _=>DoesO.val hH (hev a)⟩
 case assign a=>
  simp only [Option.some.injEq,Prod.mk.injEq] at h
  obtain ⟨rfl,rfl⟩:=h
  exact ⟨id,fun _=>DoesO.val hH (hev a)⟩
 case pick c a b=>
  unfold pickE at h
  split at h
  case h_2=>cases h
  rename_i t hc
  have hc':=hev c
  rw [hc] at hc'
  have hcv:=hc'.bool_inv
  split at h
  ·rename_i S1 ht
   simp only [Option.some.injEq,Prod.mk.injEq] at h
   obtain ⟨rfl,rfl⟩:=h
   obtain ⟨hp,hv⟩:=B.test_spec ht
   refine ⟨hp.ok,fun ok=>?_⟩
   refine ⟨.value (ρ a),ρ a,w,?_,.inl rfl,Far.refl w,fun _=>⟨β,hev a,by rw [hp.H];exact hH,by rw [hp.H];exact Stp.refl ..⟩⟩
   simp [execOp,hcv,asBool,hv ok]
  ·rename_i S1 ht
   simp only [Option.some.injEq,Prod.mk.injEq] at h
   obtain ⟨rfl,rfl⟩:=h
   obtain ⟨hp,hv⟩:=B.test_spec ht
   refine ⟨hp.ok,fun ok=>?_⟩
   refine ⟨.value (ρ b),ρ b,w,?_,.inl rfl,Far.refl w,fun _=>⟨β,hev b,by rw [hp.H];exact hH,by rw [hp.H];exact Stp.refl ..⟩⟩
   simp [execOp,hcv,asBool,hv ok]
  ·cases h
 case alloc e=>
  obtain ⟨h1,h2⟩:=allocE_spec hG h hH
  exact ⟨h1,fun _=>does_o h2⟩
 case box t v=>
  obtain ⟨h1,h2⟩:=boxE_spec (P:=C.P) (t:=t) h (hev v) hH
  exact ⟨h1,fun _=>does_o h2⟩
 case build t ps=>
  obtain ⟨hq,hS⟩:=val_some h;clear h;have h:=hq;clear hq;subst hS
  refine ⟨id,fun _=>?_⟩
  have:=does_o (buildOp_spec h (evP_rel hev ps.toList) hH)
  have e:ps.map (fun (x:Nat × Operand)=>(x.1,ρ x.2)) = ⟨ps.toList.map fun p=>(p.1,ρ p.2)⟩:=by apply Array.ext';simp
  simp only [execOp]
  rw [e];exact this
 case buildSlice t n ps=>
  obtain ⟨h1,h2⟩:=buildSliceOp_spec h (evP_rel hev ps.toList) hH
  refine ⟨h1,fun _=>?_⟩
  have e:ps.map (fun (x:Nat × Operand)=>(x.1,ρ x.2)) = ⟨ps.toList.map fun p=>(p.1,ρ p.2)⟩:=by apply Array.ext';simp
  simp only [execOp]
  rw [e];exact does_o h2
 case load t a=>
  rw [hG] at h
  obtain ⟨hp,h2⟩:=loadOp_spec h (hev a) hH
  exact ⟨hp.ok,fun ok=>does_o (h2 ok)⟩
 case store t a v=>
  unfold storeE at h
  split at h
  case h_2=>cases h
  rename_i S1 hs
  simp only [Option.some.injEq,Prod.mk.injEq] at h
  obtain ⟨rfl,rfl⟩:=h
  obtain ⟨h1,h2⟩:=storeOp_spec hs (hev a) (hev v) hH
  exact ⟨h1,fun ok=>doesU_o (h2 ok)⟩
 case nilCheck a=>
  have ha:=hev a
  unfold nilCheckE at h
  split at h
  ·rename_i b o' hb
   simp only [Option.some.injEq,Prod.mk.injEq] at h
   obtain ⟨rfl,rfl⟩:=h
   rw [hb] at ha
   refine ⟨id,fun _=>?_⟩
   obtain ⟨L,hL,hv⟩:=ha.ptr_inv
   have:=DoesO.val (P:=C.P) hH ha
   rw [hv] at this
   simp only [execOp,hv];exact this
  ·rename_i b o' hb
   simp only [Option.some.injEq,Prod.mk.injEq] at h
   obtain ⟨rfl,rfl⟩:=h
   rw [hb] at ha
   refine ⟨id,fun _=>?_⟩
   have hv:=ha.gp_inv
   have:=DoesO.val (P:=C.P) hH ha
   rw [hv] at this
   simp only [execOp,hv];exact this
  ·rename_i tg xs hobj
   split at h
   case h_2=>cases h
   rename_i f n
   split at h
   case h_2=>cases h
   rename_i name
   split at h
   case h_2=>cases h
   split at h
   case h_2=>cases h
   rename_i x0
   split at h
   case h_2=>cases h
   rename_i tg' ys
   split at h
   case h_2=>cases h
   rename_i t
   split at h
   case h_2=>cases h
   rename_i y
   split at h
   case h_2=>cases h
   rename_i b o'
   split at h
   case h_2=>cases h
   rename_i mf hmf
   simp only [Option.some.injEq,Prod.mk.injEq] at h
   obtain ⟨rfl,rfl⟩:=h
   rw [hobj] at ha
   refine ⟨id,fun _=>?_⟩
   have this:=DoesO.val (P:=C.P) hH ha
   obtain ⟨p,hv⟩:∃ p,ρ a = .func (.method name) #[.iface t (.pointer (some p))] #[]:=by
    generalize ρ a = u at ha
    cases ha with
    | fn _ _ _ first captured hn hl hrel=>
     match first,hn with
     | [v0],_=>
      have hc:captured = []:=by
       cases captured with
       | nil=>rfl
       | cons c cs=>simp at hl
      subst hc
      have h0:=hrel 0 _ v0 rfl rfl
      cases h0 with
      | ifc _ _ v1 h1=>
       obtain ⟨L,_,hv1⟩:=h1.ptr_inv
       subst hv1
       exact ⟨_,rfl⟩
   rw [hv] at this
   have hn:=ExtOk.nila t name mf hmf p w
   obtain ⟨r0,v0,w0,h1,h2⟩:=this
   refine ⟨r0,v0,w0,?_,h2⟩
   rw [← h1]
   simp [execOp,hv,hn]
  ·cases h
 case binOp op t x' y' ty'=>
  obtain ⟨hp,h2⟩:=binOpE_spec h (hev x') (hev y') hH
  exact ⟨hp.ok,fun ok=>does_o (h2 ok)⟩
 case unOp op t x'=>
  obtain ⟨hq,hS⟩:=val_some h;clear h;have h:=hq;clear hq;subst hS
  refine ⟨id,fun _=>?_⟩
  have hx:=hev x'
  have hn:NRel (ev x') (ρ x'):=by
   cases he:ev x' with
   | num n=>rw [he] at hx;rw [hx.num_inv];exact .num n
   | atom a=>
    cases a with
    | bool b=>rw [he] at hx;rw [hx.bool_inv];exact .bool b
    | _=>rw [he] at h;simp [unop] at h
   | _=>rw [he] at h;simp [unop] at h
  obtain ⟨v,h1,h2⟩:=unop_sound (P:=C.P) w hn h
  exact does_o (Does.pure hH (Pure.refl _) h1 (VRel.of_n h2))
 case convert src dst x'=>
  unfold convE at h
  split at h
  ·cases h
  rename_i ds hds
  split at h
  case h_3=>cases h
  case h_2=>
   rename_i e hk
   unfold convSl at h
   split at h
   ·cases h
   rename_i hsame
   have hsd:src = dst:=Nat.eq_of_beq_eq_true hsame
   split at h
   case h_2=>cases h
   rename_i hu8
   split at h
   case h_2=>cases h
   rename_i b o n cp hv
   split at h
   case h_2=>cases h
   rename_i dd hb
   simp only [Option.some.injEq,Prod.mk.injEq] at h
   obtain ⟨rfl,rfl⟩:=h
   rw [lget_eq] at hb
   have hx:=hev x'
   refine ⟨id,fun _=>?_⟩
   rw [hv] at hx
   obtain ⟨a,c,hva,hlc,_,hor⟩:=hx.sl_inv
   have hc0:c ≠ 0:=by
    have:n + 1 ≤ c:=hlc
    omega
   rcases hor with h0 | ⟨L,hL,ha,hroom⟩
   ·exact absurd h0 hc0
   subst ha
   obtain ⟨ty,hsh,hrel,hstp⟩:=hH.mark hb hL
   subst hsd
   rw [hv]
   refine does_o ⟨_,_,?_,far_freeze w (hH.mineOf hb rfl hL) _ _,fun _=>⟨β,hx,hrel,hstp⟩⟩
   rw [hva]
   simp [convert,run_und hk,run_und hu8,markStringish,at',hsh]
  rename_i k hk
  have hx:=hev x'
  cases he:ev x' with
  | num n=>
   rw [he] at h hx
   simp only [convNum] at h
   obtain ⟨hp,hv⟩:=convN_sound h
   refine ⟨hp.ok,fun ok=>?_⟩
   refine does_o (Does.pure hH hp (v:=.int k (k.wrap n.z.v)) ?_ (VRel.of_n (hv ok)))
   rw [hx.num_inv]
   simp [convert,run_und hds,run_und hk,Num.val,Conv.intToInt]
  | _=>rw [he] at h;simp [convNum] at h
 case sliceToArrayPointer t x'=>
  obtain ⟨hp,h2⟩:=arrayPtrOp_spec h (hev x') hH
  exact ⟨hp.ok,fun ok=>does_o (h2 ok)⟩
 case makeInterface t x'=>
  unfold ifaceE at h
  split at h
  ·cases h
  ·cases h
  rename_i d hni hd
  simp only [Option.some.injEq,Prod.mk.injEq] at h
  obtain ⟨rfl,rfl⟩:=h
  refine ⟨id,fun _=>?_⟩
  refine does_o (Does.pure hH (Pure.refl _) (v:=.iface t (ρ x')) ?_ (.ifc t _ _ (hev x')))
  cases d <;> first | (simp [Instr.makeInterface,run_und hd];done) | (exact absurd rfl (hni _))
 case makeFunc fn first captured=>
  simp only [Option.some.injEq,Prod.mk.injEq] at h
  obtain ⟨rfl,rfl⟩:=h
  refine ⟨id,fun _=>?_⟩
  have h1:=evL_rel hev first.toList
  have h2:=evL_rel hev captured.toList
  have h3:=h1.append h2
  refine does_o (Does.pure hH (Pure.refl _) (v:=.func fn ⟨first.toList.map ρ⟩ ⟨captured.toList.map ρ⟩) ?_ (.fn fn _ _ _ _ h1.1.symm h3.1 h3.2))
  have e1:first.map ρ = ⟨first.toList.map ρ⟩:=by apply Array.ext';simp
  have e2:captured.map ρ = ⟨captured.toList.map ρ⟩:=by apply Array.ext';simp
  rw [← e1,← e2];rfl
 case makeSlice t l c=>
  obtain ⟨h1,h2⟩:=makeSliceOp_spec h (hev l) (hev c) hH
  exact ⟨h1,fun ok=>does_o (h2 ok)⟩
 case slice t x' lo hi mx=>
  obtain ⟨hp,h2⟩:=sliceOp_spec h (hev x') (evO_rel hev lo) (evO_rel hev hi) (evO_rel hev mx) hH
  exact ⟨hp.ok,fun ok=>does_o (h2 ok)⟩
 case fieldAddr t x' f=>
  obtain ⟨hq,hS⟩:=val_some h;clear h;have h:=hq;clear hq;subst hS
  exact ⟨id,fun _=>does_o (fieldAddrOp_spec h (hev x') hH)⟩
 case field t x' f=>
  obtain ⟨hq,hS⟩:=val_some h;clear h;have h:=hq;clear hq;subst hS
  exact ⟨id,fun _=>does_o (fieldOp_spec h (hev x') hH)⟩
 case indexAddr t x' i=>
  obtain ⟨hp,h2⟩:=indexAddrOp_spec h (hev x') (hev i) hH
  exact ⟨hp.ok,fun ok=>does_o (h2 ok)⟩
 case index t x' i=>
  obtain ⟨hp,h2⟩:=indexOp_spec h (hev x') (hev i) hH
  exact ⟨hp.ok,fun ok=>does_o (h2 ok)⟩
 case extract t i=>
  unfold extractE at h
  split at h
  case h_2=>cases h
  rename_i xs hxs
  obtain ⟨hq,hS⟩:=val_some h;clear h;have h:=hq;clear hq;subst hS
  have ht:=hev t
  rw [hxs] at ht
  obtain ⟨vs,hv,hl⟩:=ht.tup_inv
  rw [lget_eq] at h
  obtain ⟨v,h1,h2⟩:=hl.get h
  refine ⟨id,fun _=>does_o (Does.pure hH (Pure.refl _) (v:=v) ?_ h2)⟩
  rw [hv]
  simp [Instr.extract,h1]
theorem builtin_spec {C:Cfg} {c:Call} {ev:Operand → AV} {ρ:Operand → Value} {x:AV} {o:Oper} {S S':St} (ho:o.op = .call c) (h:callBE C c ev S = some (x,S')) (hev:∀ x,VRel β (ev x) (ρ x)) (hH:HRel G β S.H w) :
 (S'.ok → S.ok) ∧ (S'.ok → DoesO C.P G β S w (execOp ρ o) x S'):=by
 unfold callBE at h
 split at h
 case h_2=>cases h
 rename_i b hb
 have hl:=evL_rel hev c.args.toList
 have e:c.args.map ρ = ⟨c.args.toList.map ρ⟩:=by apply Array.ext';simp
 have ex:∃ consts,execOp ρ o = builtin b c.argTypes o.type consts ⟨c.args.toList.map ρ⟩:=by
  refine ⟨c.args.map fun | .const _=>true | _=>false,?_⟩
  simp only [execOp,ho,resolve,hb,e];rfl
 obtain ⟨consts,hex⟩:=ex
 rw [hex]
 have ets:c.argTypes = ⟨c.argTypes.toList⟩:=rfl
 generalize c.argTypes.toList = ts at *
 rw [ets]
 generalize evL ev c.args.toList = az at *
 generalize c.args.toList.map ρ = vs at *
 unfold builtinE at h
 split at h
 ·obtain ⟨hq,hS⟩:=val_some h;clear h;have h:=hq;clear hq;subst hS
  exact ⟨id,fun _=>does_o (lenOp_spec h hl hH)⟩
 ·obtain ⟨hq,hS⟩:=val_some h;clear h;have h:=hq;clear hq;subst hS
  exact ⟨id,fun _=>does_o (capOp_spec h hl hH)⟩
 ·obtain ⟨h1,h2⟩:=appendE_spec (P:=C.P) (ty:=o.type) h hl hH
  exact ⟨h1,fun ok=>does_o (h2 ok)⟩
 ·obtain ⟨h1,h2⟩:=copyOp_spec (P:=C.P) (ty:=o.type) h hl hH
  exact ⟨h1,fun ok=>does_o (h2 ok)⟩
 ·split at h
  case h_2=>cases h
  obtain ⟨hq,hS⟩:=val_some h;clear h;have h:=hq;clear hq;subst hS
  obtain ⟨v1,vr,rfl,g1,g2⟩:=hl.cons_inv
  obtain ⟨v2,vr',rfl,g3,g4⟩:=g2.cons_inv
  have:=g4.nil_inv;subst this
  have:=min2_spec (P:=C.P) (w:=w) (G:=G) (S:=S') (ty:=o.type) (ts:=⟨ts⟩) h g1 g3 hH
  exact ⟨id,fun _=>does_o this⟩
 ·split at h
  case h_2=>cases h
  obtain ⟨hq,hS⟩:=val_some h;clear h;have h:=hq;clear hq;subst hS
  obtain ⟨v1,vr,rfl,g1,g2⟩:=hl.cons_inv
  obtain ⟨v2,vr',rfl,g3,g4⟩:=g2.cons_inv
  have:=g4.nil_inv;subst this
  have:=min2_spec (P:=C.P) (w:=w) (G:=G) (S:=S') (ty:=o.type) (ts:=⟨ts⟩) h g1 g3 hH
  exact ⟨id,fun _=>does_o this⟩
 ·cases h
end
end
section
variable [RowAddr] [Co]
def St.re (H:List Blk) (low:Nat) (cs:List Bool) (S:St):St:=⟨H,low,S.dec,S.cond ++ cs⟩
def reP {α:Type} (H:List Blk) (low:Nat) (cs:List Bool) (p:α × St):α × St:=(p.1,p.2.re H low cs)
section
variable {H:List Blk} {low:Nat} {cs:List Bool} {S:St}
theorem test_re (b:B):b.test (S.re H low cs) = (b.test S).map (reP H low cs):=by
 cases b with
 | c b=>rfl
 | s b=>
  simp only [B.test,St.re]
  cases S.dec <;> rfl
theorem claim_re (b:B):b.claim (S.re H low cs) = (b.claim S).map (St.re H low cs):=by
 cases b with
 | c b=>cases b <;> rfl
 | s b=>rfl
theorem val_re (v:Option AV):val (S.re H low cs) v = (val S v).map (reP H low cs):=by cases v <;> rfl
theorem bvOp_re (op:BinOp) (n:Nat) (mk:BitVec n → AV) (x y:BitVec n):bvOp op n mk x y (S.re H low cs) = (bvOp op n mk x y S).map (reP H low cs):=by
 unfold bvOp;cases wOp op <;> rfl
theorem bvBin_re {n:Nat} (mk:BitVec n → AV) (op:BinOp) (x y:Option (BitVec n)):bvBin mk op x y (S.re H low cs) = (bvBin mk op x y S).map (reP H low cs):=by
 cases x <;> cases y <;> simp [bvBin,bvOp_re]
theorem bvSh_re (op:BinOp) (n:Nat) (mk:BitVec n → AV) (x:BitVec n) (s:Nat):bvSh op n mk x s (S.re H low cs) = (bvSh op n mk x s S).map (reP H low cs):=by
 unfold bvSh;cases wSh op <;> rfl
theorem bvShift_re {n:Nat} (mk:BitVec n → AV) (op:BinOp) (x:BitVec n) (s:Z):bvShift mk op x s (S.re H low cs) = (bvShift mk op x s S).map (reP H low cs):=by
 unfold bvShift;rw [claim_re]
 cases ((Z.c 0).le s).claim S <;> simp [bvSh_re]
theorem arithSE_re (op:BinOp) (k:IntKind) (a b:Int):arithSE op k a b (S.re H low cs) = (arithSE op k a b S).map (reP H low cs):=by
 unfold arithSE arithS;cases op <;> rfl
theorem intArith_re (op:BinOp) (k:IntKind) (x y:Z):intArith op k x y (S.re H low cs) = (intArith op k x y S).map (reP H low cs):=by
 unfold intArith
 cases cmpZ op with
 | some f=>rfl
 | none=>
  cases x <;> cases y <;> simp only [arithSE_re]
  cases arithC op with
  | none=>rfl
  | some f=>dsimp only;cases f k _ _ <;> rfl
theorem shiftI_re (k:IntKind) (z:Z) (op:BinOp) (s:Z):shiftI k z op s (S.re H low cs) = (shiftI k z op s S).map (reP H low cs):=by
 unfold shiftI
 cases s with
 | s _=>rfl
 | c b=>
  dsimp only
  cases intLe 0 b with
  | false=>rfl
  | true=>
   cases z with
   | c a=>dsimp only;cases shiftC op k a b.toNat <;> rfl
   | s a=>
    dsimp only
    cases Nat.blt b.toNat k.bits with
    | false=>rfl
    | true=>cases op <;> rfl
theorem shiftOp_re (x:Num) (op:BinOp) (s:Z):shiftOp x op s (S.re H low cs) = (shiftOp x op s S).map (reP H low cs):=by
 cases x <;> simp only [shiftOp,shiftI_re,bvShift_re]
theorem intOp_re (k:IntKind) (a:Z) (y:Num) (op:BinOp):intOp k a y op (S.re H low cs) = (intOp k a y op S).map (reP H low cs):=by
 cases y <;> simp only [intOp,bvBin_re]
 cases kindEq k _ <;> simp [intArith_re]
theorem numOp_re (x y:Num) (op:BinOp):numOp x y op (S.re H low cs) = (numOp x y op S).map (reP H low cs):=by
 cases x <;> simp only [numOp,intOp_re,bvBin_re]
theorem binop_re (op:BinOp) (x y:AV):binop op x y (S.re H low cs) = (binop op x y S).map (reP H low cs):=by
 unfold binop
 cases x <;> try rfl
 cases y <;> try rfl
 dsimp only
 cases isShift op <;> simp only [shiftOp_re,numOp_re]
theorem binOpE_re (P:Program) (op:BinOp) (t:TypeId) (x y:Operand) (a b:AV):binOpE P op t x y a b (S.re H low cs) = (binOpE P op t x y a b S).map (reP H low cs):=by
 unfold binOpE
 rw [binop_re]
 cases binop op a b S with
 | some r=>rfl
 | none=>
  simp only [Option.map_none]
  cases eqOpE P t (isConst x || isConst y) a b with
  | none=>rfl
  | some r=>cases op <;> rfl
theorem convW_re (k:IntKind) (n:Nat) (a b c d:AV):convW k n a b c d (S.re H low cs) = (convW k n a b c d S).map (reP H low cs):=by cases k <;> rfl
theorem convI_re (n:Int) (k:IntKind):convI n k (S.re H low cs) = (convI n k S).map (reP H low cs):=by cases k <;> rfl
theorem convN_re (v:Num) (k:IntKind):convN v k (S.re H low cs) = (convN v k S).map (reP H low cs):=by
 cases v with
 | int _ z=>cases z <;> simp only [convN,convI_re];rfl
 | _=>simp only [convN,convW_re]
theorem convNum_re (v:AV) (k:IntKind):convNum v k (S.re H low cs) = (convNum v k S).map (reP H low cs):=by
 cases v <;> simp only [convNum,convN_re] <;> rfl
theorem convSl_re (C:Cfg) (e:TypeId) (same:Bool) (v:AV) (hr:same = true → ∀ b,slOf v = some b → lget b H = lget b S.H):convSl C e same v (S.re H low cs) = (convSl C e same v S).map (reP H low cs):=by
 unfold convSl
 cases same with
 | false=>rfl
 | true=>
  dsimp only
  cases C.P.underlying e with
  | none=>rfl
  | some d=>
   cases d <;> try rfl
   rename_i k
   cases k <;> try rfl
   dsimp only
   split
   ·rename_i b _ _ _
    have h:=hr rfl b rfl
    show (match lget b H with | some ⟨_,.own⟩=>_ | _=>_) = _
    rw [h]
    cases lget b S.H with
    | none=>rfl
    | some k=>obtain ⟨d,m⟩:=k;cases m <;> rfl
   ·rfl
theorem convE_re (C:Cfg) (src dst:TypeId) (v:AV) (hr:Nat.beq src dst = true → ∀ b,slOf v = some b → lget b H = lget b S.H):convE C src dst v (S.re H low cs) = (convE C src dst v S).map (reP H low cs):=by
 unfold convE
 cases C.P.underlying src with
 | none=>rfl
 | some _=>
  dsimp only
  cases hd:C.P.underlying dst with
  | none=>rfl
  | some d=>cases d <;> first | exact convNum_re .. | exact convSl_re _ _ _ _ hr | rfl
theorem pickE_re (c a b:AV):pickE c a b (S.re H low cs) = (pickE c a b S).map (reP H low cs):=by
 unfold pickE
 cases c <;> try rfl
 rename_i at'
 cases at' <;> try rfl
 simp only [test_re]
 rename_i t
 cases ht:t.test S with
 | none=>rfl
 | some p=>obtain ⟨x,S1⟩:=p;cases x <;> rfl
theorem nilCheckE_re (meth:Nat → String → Option FuncId) (v:AV):nilCheckE meth v (S.re H low cs) = (nilCheckE meth v S).map (reP H low cs):=by
 unfold nilCheckE
 repeat' split
 all_goals rfl
theorem arrayPtrOp_re (P:Program) (t:TypeId) (x:AV):arrayPtrOp P t x (S.re H low cs) = (arrayPtrOp P t x S).map (reP H low cs):=by
 unfold arrayPtrOp
 cases P.underlying t with
 | none=>rfl
 | some d=>
  cases d <;> try rfl
  rename_i n e
  cases n <;> try rfl
  cases x <;> try rfl
  rename_i r
  cases r <;> try rfl
  simp only [claim_re]
  rename_i n b o l cap
  cases (N.le (.c (n + 1)) l).claim S <;> rfl
theorem ifaceE_re (C:Cfg) (t:TypeId) (v:AV):ifaceE C t v (S.re H low cs) = (ifaceE C t v S).map (reP H low cs):=by
 unfold ifaceE
 cases C.P.underlying t with
 | none=>rfl
 | some d=>cases d <;> rfl
theorem sliceSl_re (b:Nat) (o len:N) (cap:Option N) (lo hi mx:Option AV):sliceSl b o len cap lo hi mx (S.re H low cs) = (sliceSl b o len cap lo hi mx S).map (reP H low cs):=by
 unfold sliceSl
 cases bound lo (.c 0) with
 | none=>rfl
 | some l=>
  dsimp only
  cases bound hi len with
  | none=>rfl
  | some h=>
   cases cap with
   | none=>
    cases mx with
    | some _=>rfl
    | none=>
     simp only [claim_re]
     cases (ordered l h len.toZ).claim S <;> rfl
   | some c=>
    cases mx with
    | none=>
     simp only [claim_re]
     cases (ordered l h c.toZ).claim S <;> rfl
    | some m=>
     dsimp only
     cases m.nm with
     | none=>rfl
     | some m=>
      cases hi with
      | none=>rfl
      | some _=>
       simp only [claim_re]
       cases (B.and (ordered l h m) (m.le c.toZ)).claim S <;> rfl
theorem indexAddrOp_re (P:Program) (t:TypeId) (x i:AV):indexAddrOp P t x i (S.re H low cs) = (indexAddrOp P t x i S).map (reP H low cs):=by
 unfold indexAddrOp
 cases i.nm with
 | none=>rfl
 | some z=>
  dsimp only
  cases P.underlying t with
  | none=>rfl
  | some d=>
   cases d with
   | array n e=>
    dsimp only
    cases sizeT P e with
    | none=>rfl
    | some s=>
     simp only [claim_re]
     cases (inRange z (.c n)).claim S with
     | none=>rfl
     | some S1=>
      cases x with
      | ref r=>cases r <;> rfl
      | _=>rfl
   | slice e=>
    dsimp only
    cases sizeT P e with
    | none=>rfl
    | some s=>
     cases x with
     | ref r=>
      cases r with
      | sl b o l c=>
       simp only [claim_re]
       cases (inRange z l.toZ).claim S <;> rfl
      | gs g o l=>
       simp only [claim_re]
       cases (inRange z l.toZ).claim S <;> rfl
      | sm b l s'=>
       simp only [claim_re]
       cases Nat.beq s' s with
       | false=>rfl
       | true=>cases (inRange z l.toZ).claim S <;> rfl
      | _=>rfl
     | _=>rfl
   | _=>rfl
theorem indexOp_re (P:Program) (t:TypeId) (x i:AV):indexOp P t x i (S.re H low cs) = (indexOp P t x i S).map (reP H low cs):=by
 unfold indexOp
 cases i.nm with
 | none=>rfl
 | some z=>
  dsimp only
  cases P.underlying t with
  | none=>rfl
  | some d=>
   cases d with
   | string=>
    cases x with
    | atom a=>
     cases a with
     | str s=>
      cases z with
      | c z=>
       dsimp only
       split <;> try rfl
       split <;> rfl
      | s k=>
       simp only [claim_re]
       cases (inRange (.s k) (.c s.size)).claim S <;> rfl
     | _=>rfl
    | _=>rfl
   | array n e=>
    cases x <;> try rfl
    cases z with
    | s k=>
     dsimp only
     cases sizeT P e with
     | none=>rfl
     | some s=>
      dsimp only
      cases isAggT P e with
      | none=>rfl
      | some b=>
       cases b with
       | true=>rfl
       | false=>
        dsimp only
        rename_i xs
        cases mapOpt AV.bv64 xs with
        | none=>rfl
        | some l=>
         dsimp only
         cases Nat.beq s 1 && Nat.beq l.length n with
         | false=>rfl
         | true=>
          simp only [claim_re]
          cases (inRange (.s k) (.c n)).claim S <;> rfl
    | c z=>
    dsimp only
    split <;> try rfl
    split <;> try rfl
    simp only [Option.map_map];rfl
   | _=>rfl
theorem extractE_re (v:AV) (i:Nat):extractE v i (S.re H low cs) = (extractE v i S).map (reP H low cs):=by
 unfold extractE
 cases v <;> try rfl
 rename_i t xs
 cases t <;> simp only [val_re] <;> rfl
theorem get0_re (d:Data) (o:N):d.get0 o (S.re H low cs) = (d.get0 o S).map (reP H low cs):=by
 cases d <;> try rfl
 cases o <;> simp only [Data.get0,Option.map_map] <;> rfl
theorem get_re (d:Data) (o:N):d.get o (S.re H low cs) = (d.get o S).map (reP H low cs):=by
 unfold Data.get
 rw [get0_re]
 cases d.get0 o S with
 | some r=>rfl
 | none=>
  cases d.words with
  | none=>
   show d.get1 o (S.re H low cs) = (d.get1 o S).map (reP H low cs)
   unfold Data.get1
   cases d.mid <;> rfl
  | some d'=>exact get0_re d' o
theorem cells0_re (d:Data) (n:Nat) (o:N):d.cells0 n o (S.re H low cs) = (d.cells0 n o S).map (reP H low cs):=by
 cases d <;> try rfl
 cases o <;> simp only [Data.cells0,Option.map_map] <;> rfl
theorem cells_re (d:Data) (n:Nat) (o:N):d.cells n o (S.re H low cs) = (d.cells n o S).map (reP H low cs):=by
 unfold Data.cells
 rw [cells0_re]
 cases d.cells0 n o S with
 | some r=>rfl
 | none=>
  cases d.words with
  | none=>rfl
  | some d'=>exact cells0_re d' n o
end
end
section
variable [RowAddr] [Co]
structure Ext (S S':St):Prop where
 ok:S'.ok → S.ok
 low:S'.low ≤ S.low
 len:S.H.length ≤ S'.H.length
 same:∀ b,b < S.H.length → b < S'.low → lget b S'.H = lget b S.H
 dead:∀ b k,lget b S.H = some k → k.mode = .dead → lget b S'.H = some k
 ro:∀ b k,lget b S'.H = some k → k.mode = .ro → lget b S.H = some k
theorem lget_lt {α:Type} {b:Nat} {l:List α} {k:α} (h:lget b l = some k):b < l.length:=by
 rw [lget_eq] at h
 rcases Nat.lt_or_ge b l.length with h' | h'
 ·exact h'
 ·rw [List.getElem?_eq_none h'] at h;cases h
theorem Ext.refl (S:St):Ext S S:=⟨id,Nat.le_refl _,Nat.le_refl _,fun _ _ _=>rfl,fun _ _ h _=>h,fun _ _ h _=>h⟩
theorem Ext.trans {a b c:St} (h:Ext a b) (k:Ext b c):Ext a c:=
 ⟨fun o=>h.ok (k.ok o),Nat.le_trans k.low h.low,Nat.le_trans h.len k.len,fun x hx hl=>(k.same x (Nat.lt_of_lt_of_le hx h.len) hl).trans (h.same x hx (Nat.lt_of_lt_of_le hl k.low)),
  fun x y hx hy=>k.dead x y (h.dead x y hx hy) hy,fun x y hx hy=>h.ro x y (k.ro x y hx hy) hy⟩
theorem Pure.ext {S S':St} (h:Pure S S'):Ext S S':=
 ⟨h.ok,Nat.le_of_eq h.low,by rw [h.H];exact Nat.le_refl _,fun b _ _=>by rw [h.H],fun b k hk _=>by rw [h.H];exact hk,fun b k hk _=>by rw [← h.H];exact hk⟩
theorem lget_lset {α:Type} (v:α) (b x:Nat) (l:List α):lget x (lset v b l) = if b = x ∧ b < l.length then some v else lget x l:=by
 rw [lget_eq,lget_eq,lset_eq,List.getElem?_set]
 by_cases e:b = x
 ·subst e
  by_cases h:b < l.length
  ·simp [h]
  ·simp [h]
 ·simp [e]
theorem lget_push {α:Type} (v:α) (x:Nat) (l:List α):lget x (l ++ [v]) = if x = l.length then some v else lget x l:=by
 rw [lget_eq,lget_eq]
 rcases Nat.lt_trichotomy x l.length with h | h | h
 ·rw [List.getElem?_append_left h];simp [show x ≠ l.length by omega]
 ·subst h;simp
 ·rw [List.getElem?_append_right (by omega),List.getElem?_eq_none (by simp;omega),if_neg (by omega),List.getElem?_eq_none (by omega)]
theorem ext_write {S S':St} {b:Nat} {d:Data} (h:S.write b d = some S'):Ext S S':=by
 unfold St.write at h
 split at h
 ·rename_i d0 m hb
  split at h
  ·simp only [Option.some.injEq] at h;subst h
   refine ⟨fun o=>o,Nat.min_le_left _ _,by simp [lset_eq],fun x hx hl=>?_,fun x k hx hk=>?_,fun x k hx hk=>?_⟩
   ·have:x < b:=Nat.lt_of_lt_of_le hl (Nat.min_le_right _ _)
    rw [lget_lset,if_neg (by omega)]
   ·rw [lget_lset]
    split
    ·rename_i e;obtain ⟨rfl,_⟩:=e;rw [hb] at hx;injection hx with hx;subst hx;cases hk
    ·exact hx
   ·rw [lget_lset] at hx
    split at hx
    ·injection hx with hx;subst hx;cases hk
    ·exact hx
  ·cases h
 ·cases h
theorem ext_kill (S:St) (b:Nat) (hb:∀ k,lget b S.H = some k → k.mode ≠ .dead):Ext S (S.kill b):=by
 refine ⟨fun o=>o,Nat.min_le_left _ _,by simp [St.kill,lset_eq],fun x hx hl=>?_,fun x k hx hk=>?_,fun x k hx hk=>?_⟩
 ·have:x < b:=Nat.lt_of_lt_of_le hl (Nat.min_le_right _ _)
  simp only [St.kill]
  rw [lget_lset,if_neg (by omega)]
 ·simp only [St.kill]
  rw [lget_lset]
  split
  ·rename_i e;obtain ⟨rfl,_⟩:=e;exact absurd hk (hb k hx)
  ·exact hx
 ·simp only [St.kill] at hx
  rw [lget_lset] at hx
  split at hx
  ·injection hx with hx;subst hx;cases hk
  ·exact hx
theorem ext_new (S:St) (d:Data):Ext S (S.new d).2:=by
 have e:∀ x,lget x (S.new d).2.H = if x = S.H.length then some ⟨d,.own⟩ else lget x S.H:=fun x=>lget_push _ x S.H
 refine ⟨fun o=>o,Nat.le_refl _,by simp [St.new],fun x hx _=>?_,fun x k hx hk=>?_,fun x k hx hk=>?_⟩
 ·rw [e,if_neg (by omega)]
 ·have:=lget_lt hx
  rw [e,if_neg (by omega)];exact hx
 ·rw [e] at hx
  split at hx
  ·injection hx with hx;subst hx;cases hk
  ·exact hx
theorem pure_of_re {α:Type} {f:St → Option (α × St)} {S S':St} {x:α}
 (hf:∀ (T:St) cs,T.H = S.H → T.low = S.low → f (T.re S.H S.low cs) = (f T).map (reP S.H S.low cs)) (h:f S = some (x,S')):Pure S S':=by
 have h1:=hf ⟨S.H,S.low,S.dec,[]⟩ S.cond rfl rfl
 have h2:(⟨S.H,S.low,S.dec,[]⟩:St).re S.H S.low S.cond = S:=rfl
 rw [h2,h] at h1
 cases h3:f ⟨S.H,S.low,S.dec,[]⟩ with
 | none=>rw [h3] at h1;cases h1
 | some p=>
  rw [h3] at h1
  simp only [Option.map_some,Option.some.injEq,reP,Prod.mk.injEq] at h1
  obtain ⟨_,rfl⟩:=h1
  exact ⟨rfl,rfl,fun o b hb=>o b (by simp [St.re,hb])⟩
def isFlat:Op → Bool
 | .move _ | .assign _ | .pick .. | .build .. | .nilCheck _ | .binOp .. | .unOp .. | .sliceToArrayPointer .. | .makeInterface .. | .makeFunc ..
 | .fieldAddr .. | .field .. | .indexAddr .. | .index .. | .extract ..=>true
 | .convert s d _=>!Nat.beq s d
 | .call c=>
  match c.callee with
  | .builtin b=>
   match b with
   | .len | .cap | .min | .max=>true
   | _=>false
  | _=>false
 | _=>false
def isRead:Op → Bool
 | .load ..=>true
 | .slice ..=>true
 | .convert s d _=>Nat.beq s d
 | _=>false
section
variable {C:Cfg} {call:CallF} {ev:Operand → AV} {H:List Blk} {low:Nat} {cs:List Bool} {S:St}
theorem flat_re {op:Op} (h:isFlat op = true):opE C call ev op (S.re H low cs) = (opE C call ev op S).map (reP H low cs):=by
 cases op <;> simp only [isFlat,Bool.false_eq_true] at h <;> (try dsimp only [opE,opF])
 all_goals first
  | rfl
  | exact pickE_re ..
  | exact nilCheckE_re ..
  | exact binOpE_re ..
  | exact convE_re _ _ _ _ (fun e=>by rw [e] at h;cases h)
  | exact arrayPtrOp_re ..
  | exact ifaceE_re ..
  | exact val_re ..
  | exact indexAddrOp_re ..
  | exact indexOp_re ..
  | exact extractE_re ..
  | skip
 rename_i c
 obtain ⟨callee,args,ats⟩:=c
 cases callee <;> simp only [Bool.false_eq_true] at h
 rename_i b
 cases b <;> simp only [Bool.false_eq_true] at h <;> simp only [callE,isBuiltin,callBE,builtinE]
 ·exact val_re ..
 ·exact val_re ..
 ·split <;> first | exact val_re .. | rfl
 ·split <;> first | exact val_re .. | rfl
theorem read_eq {b:Nat} (h:lget b H = lget b S.H):(S.re H low cs).read b = S.read b:=by
 unfold St.read;rw [show (S.re H low cs).H = H from rfl,h]
theorem readCell_re (G:Nat → Option (List AV)) (a:AV) (h:∀ b,blkOf a = some b → lget b H = lget b S.H):readCell G a (S.re H low cs) = (readCell G a S).map (reP H low cs):=by
 unfold readCell
 cases a with
 | ref r=>
  cases r with
  | ptr b o=>
   dsimp only
   rw [read_eq (h b rfl)]
   cases S.read b with
   | none=>rfl
   | some d=>exact get_re d o
  | gp g o=>
   dsimp only
   cases G g with
   | none=>rfl
   | some l=>exact get_re _ o
  | _=>rfl
 | _=>rfl
theorem readCells_re (G:Nat → Option (List AV)) (a:AV) (n:Nat) (h:∀ b,blkOf a = some b → lget b H = lget b S.H):readCells G a n (S.re H low cs) = (readCells G a n S).map (reP H low cs):=by
 unfold readCells
 cases a with
 | ref r=>
  cases r with
  | ptr b o=>
   dsimp only
   rw [read_eq (h b rfl)]
   cases S.read b with
   | none=>rfl
   | some d=>exact cells_re d n o
  | gp g o=>
   cases o with
   | c o=>
    dsimp only
    cases n with
    | zero=>rfl
    | succ n=>
     cases G g with
     | none=>rfl
     | some l=>simp only [Option.map_map];rfl
   | s _=>rfl
  | _=>rfl
 | _=>rfl
theorem loadOp_re (P:Program) (G:Nat → Option (List AV)) (t:TypeId) (a:AV) (h:∀ b,blkOf a = some b → lget b H = lget b S.H):loadOp P G t a (S.re H low cs) = (loadOp P G t a S).map (reP H low cs):=by
 unfold loadOp
 cases isAggT P t with
 | none=>rfl
 | some b=>
  cases b with
  | true=>
   dsimp only
   cases sizeT P t with
   | none=>rfl
   | some n=>
    dsimp only
    rw [readCells_re G a n h]
    cases readCells G a n S <;> rfl
  | false=>exact readCell_re G a h
theorem sliceArr_re (n s b:Nat) (o:N) (lo hi mx:Option AV) (h:lget b H = lget b S.H):sliceArr n s b o lo hi mx (S.re H low cs) = (sliceArr n s b o lo hi mx S).map (reP H low cs):=by
 unfold sliceArr
 cases bound lo (.c 0) with
 | none=>rfl
 | some l=>
  dsimp only
  cases bound hi (.c n) with
  | none=>rfl
  | some h'=>
   cases mx with
   | some _=>rfl
   | none=>
    dsimp only
    rw [read_eq h]
    cases S.read b with
    | none=>rfl
    | some d=>
     simp only [claim_re]
     cases ((o.add (.c (n * s))).le d.lenN).claim S with
     | none=>rfl
     | some S1=>
      simp only [Option.map_some,claim_re]
      cases (ordered l h' (.c n)).claim S1 <;> rfl
theorem sliceOp_re (P:Program) (t:TypeId) (x:AV) (lo hi mx:Option AV) (h:isArr P t = true → ∀ b,blkOf x = some b → lget b H = lget b S.H):sliceOp P t x lo hi mx (S.re H low cs) = (sliceOp P t x lo hi mx S).map (reP H low cs):=by
 unfold sliceOp
 cases hu:P.underlying t with
 | none=>rfl
 | some d=>
  cases d with
  | array n e=>
   cases x with
   | ref r=>
    cases r with
    | ptr b o=>
     dsimp only
     cases sizeT P e with
     | none=>rfl
     | some s=>
      cases s with
      | zero=>rfl
      | succ s=>exact sliceArr_re _ _ b o lo hi mx (h (by simp [isArr,hu]) b rfl)
    | _=>rfl
   | _=>rfl
  | slice e=>
   cases x with
   | ref r=>
    cases r with
    | sl b o l c=>
     dsimp only
     cases sizeT P e with
     | none=>rfl
     | some s=>
      rcases s with _ | _ | s
      ·rfl
      ·exact sliceSl_re ..
      ·rfl
    | _=>rfl
   | atom a=>
    cases a with
    | nils=>
     dsimp only
     cases mx with
     | some _=>rfl
     | none=>
      cases sizeT P e with
      | none=>rfl
      | some _=>
       dsimp only
       cases bound lo (.c 0) with
       | none=>rfl
       | some l=>
        dsimp only
        cases bound hi (.c 0) with
        | none=>rfl
        | some h'=>
         simp only [claim_re]
         cases (ordered l h' (.c 0)).claim S <;> rfl
    | _=>rfl
   | _=>rfl
  | _=>rfl
theorem read_re {op:Op} (h:isRead op = true) (hr:∀ b,readOf C.P ev op = some b → lget b H = lget b S.H):opE C call ev op (S.re H low cs) = (opE C call ev op S).map (reP H low cs):=by
 cases op <;> simp only [isRead,Bool.false_eq_true] at h
 case convert s d x=>exact convE_re _ _ _ _ (fun e b hb=>hr b (by simp only [readOf,e];exact hb))
 ·exact loadOp_re _ _ _ _ hr
 ·exact sliceOp_re _ _ _ _ _ _ fun ha b hb=>hr b (by simp only [readOf,ha];exact hb)
def cellOf (o:Nat) (k:Option Blk):Option Blk ⊕ (AV × Mode):=
 match k with
 | some ⟨.gen l,m⟩=>
  match lget o l with
  | some x=>.inr (x,m)
  | none=>.inl none
 | k=>.inl k
theorem cellOf_inr {o:Nat} {k:Option Blk} {x:AV} {m:Mode} (h:cellOf o k = .inr (x,m)):∃ l,k = some ⟨.gen l,m⟩ ∧ lget o l = some x:=by
 unfold cellOf at h
 split at h
 ·split at h
  ·rename_i hl
   simp only [Sum.inr.injEq,Prod.mk.injEq] at h
   obtain ⟨rfl,rfl⟩:=h
   exact ⟨_,rfl,hl⟩
  ·cases h
 ·cases h
theorem cellRead_inv {P:Program} {ev:Operand → AV} {op:Op} {S:St} {b o:Nat} (h:cellRead P ev op S = some (b,o)):∃ t a l m x,op = .load t a ∧ isAggT P t = some false ∧ ev a = .ref (.ptr b (.c o)) ∧ lget b S.H = some ⟨.gen l,m⟩ ∧ lget o l = some x:=by
 unfold cellRead at h
 repeat' (split at h)
 all_goals (try (cases h;done))
 rename_i x hx
 simp only [Option.some.injEq,Prod.mk.injEq] at h
 obtain ⟨rfl,rfl⟩:=h
 exact ⟨_,_,_,_,x,rfl,by assumption,by assumption,by assumption,hx⟩
theorem cell_re {op:Op} {b o:Nat} (h:cellRead C.P ev op S = some (b,o)) (hc:cellOf o (lget b H) = cellOf o (lget b S.H)):opE C call ev op (S.re H low cs) = (opE C call ev op S).map (reP H low cs):=by
 obtain ⟨t,a,l,m,x,rfl,h1,h2,h3,h4⟩:=cellRead_inv h
 have e2:cellOf o (lget b S.H) = .inr (x,m):=by rw [h3];simp only [cellOf,h4]
 obtain ⟨l',h5,h6⟩:=cellOf_inr (hc.trans e2)
 have e3:lget b (S.re H low cs).H = some ⟨.gen l',m⟩:=h5
 simp only [opE,opF,h2,loadOp,h1,readCell,St.read,h3,e3]
 cases m <;> simp only [Data.get,Data.get0,h4,h6,Option.map_some,Option.map_none] <;> rfl
end
end
section
variable [RowAddr] [Co]
section
variable {C:Cfg} {call:CallF} {ev:Operand → AV} {S S':St}
theorem storeOp_ext {P:Program} {t:TypeId} {a v:AV} (h:storeOp P t a v S = some S'):Ext S S':=by
 unfold storeOp at h
 repeat' (split at h)
 all_goals first
  | (cases h;done)
  | (rename_i hd;exact (Data.over_spec hd).1.ext.trans (ext_write h))
  | (rename_i hd;exact (Data.set_spec hd).1.ext.trans (ext_write h))
theorem dataOf_pure {x:AV} {n:N} {d:Data} (h:dataOf x n S = some (d,S')):Pure S S':=by
 unfold dataOf at h
 repeat' (split at h)
 all_goals first
  | (cases h;done)
  | exact (Data.sub_spec h).1
  | (simp only [Option.some.injEq,Prod.mk.injEq] at h;obtain ⟨_,rfl⟩:=h;exact Pure.refl _)
theorem appendSl_ext {b:Nat} {o l:N} {cap:Option N} {n:N} {xs:Data} {x:AV} (h:appendSl b o l cap n xs S = some (x,S')):Ext S S':=by
 unfold appendSl at h
 repeat' (split at h)
 all_goals (try (cases h;done))
 all_goals (simp only [Option.some.injEq,Prod.mk.injEq] at h;obtain ⟨_,rfl⟩:=h)
 ·exact (Data.over_spec ‹Data.over _ _ _ _ = some _›).1.ext.trans (ext_write ‹St.write _ _ _ = some _›)
 ·exact (Data.sub_spec ‹Data.sub _ _ _ _ = some _›).1.ext.trans (ext_new _ _)
 ·exact (B.test_spec ‹B.test _ _ = some _›).1.ext.trans ((B.claim_spec ‹B.claim _ _ = some _›).1.ext.trans ((Data.over_spec ‹Data.over _ _ _ _ = some _›).1.ext.trans (ext_write ‹St.write _ _ _ = some _›)))
 ·exact (B.test_spec ‹B.test _ _ = some _›).1.ext.trans ((Data.sub_spec ‹Data.sub _ _ _ _ = some _›).1.ext.trans (ext_new _ _))
 ·have hp:=(B.claim_spec ‹B.claim _ _ = some _›).1
  have hq:=‹lget b S.H = some _›
  exact (hp.ext.trans (ext_kill _ _ fun k hk=>by rw [hp.H,hq] at hk;injection hk with hk;subst hk;simp)).trans (ext_new _ _)
theorem appendOp_ext {P:Program} {ts:List TypeId} {az:List AV} {x:AV} (h:appendOp P ts az S = some (x,S')):Ext S S':=by
 unfold appendOp at h
 repeat' (split at h)
 all_goals (try (cases h;done))
 ·simp only [Option.some.injEq,Prod.mk.injEq] at h;obtain ⟨_,rfl⟩:=h
  exact (dataOf_pure ‹dataOf _ _ _ = some _›).ext
 ·simp only [Option.some.injEq,Prod.mk.injEq] at h;obtain ⟨_,rfl⟩:=h
  exact ((dataOf_pure ‹dataOf _ _ _ = some _›).trans (B.claim_spec ‹B.claim _ _ = some _›).1).ext.trans (ext_new _ _)
 ·exact ((dataOf_pure ‹dataOf _ _ _ = some _›).trans (B.claim_spec ‹B.claim _ _ = some _›).1).ext.trans (appendSl_ext h)
theorem appendRow_ext {x:AV} {s bytes:Nat} {cs:List AV} {r:AV} (h:appendRow x s bytes cs S = some (r,S')):Ext S S':=by
 unfold appendRow at h
 repeat' (split at h)
 all_goals (try (cases h;done))
 ·simp only [Option.some.injEq,Prod.mk.injEq] at h;obtain ⟨_,rfl⟩:=h
  exact (B.claim_spec ‹B.claim _ _ = some _›).1.ext.trans (ext_new _ _)
 ·simp only [Option.some.injEq,Prod.mk.injEq] at h;obtain ⟨_,rfl⟩:=h
  have c1:=(B.claim_spec ‹B.claim (N.eq _ _) _ = some _›).1
  have c2:=(B.claim_spec ‹B.claim (N.fits _) _ = some _›).1
  have hk:=‹lget _ _ = some _›
  exact (c1.trans c2).ext.trans ((ext_kill _ _ (by
   rw [(c1.trans c2).H]
   intro k hkk
   rw [hk] at hkk
   injection hkk with hkk
   subst hkk
   intro h;cases h)).trans (ext_new _ _))
theorem appendE_ext {P:Program} {ts:List TypeId} {az:List AV} {x:AV} (h:appendE P ts az S = some (x,S')):Ext S S':=by
 unfold appendE at h
 split at h
 ·rename_i r hr
  injection h with h;subst h
  exact appendOp_ext hr
 ·unfold appendBig at h
  repeat' (split at h)
  all_goals (try (cases h;done))
  exact appendRow_ext h
theorem copyOp_ext {P:Program} {ts:List TypeId} {az:List AV} {x:AV} (h:copyOp P ts az S = some (x,S')):Ext S S':=by
 unfold copyOp at h
 repeat' (split at h)
 all_goals (try (cases h;done))
 all_goals (simp only [Option.some.injEq,Prod.mk.injEq] at h;obtain ⟨_,rfl⟩:=h)
 ·exact (((dataOf_pure ‹dataOf _ _ _ = some _›).trans (Data.over_spec ‹Data.over _ _ _ _ = some _›).1).ext).trans (ext_write ‹St.write _ _ _ = some _›)
 ·exact (dataOf_pure ‹dataOf _ _ _ = some _›).ext
theorem makeSliceOp_ext {P:Program} {t:TypeId} {l c x:AV} (h:makeSliceOp P t l c S = some (x,S')):Ext S S':=by
 unfold makeSliceOp at h
 repeat' (split at h)
 all_goals (try (cases h;done))
 simp only [Option.some.injEq,Prod.mk.injEq] at h;obtain ⟨_,rfl⟩:=h
 have h1:=B.claim_spec ‹B.claim (N.fits _) _ = some _›
 have h2:=B.claim_spec ‹B.claim (ordered _ _ _) _ = some _›
 exact (h2.1.trans h1.1).ext.trans (ext_new _ _)
theorem buildSliceOp_ext {P:Program} {t:TypeId} {n:Nat} {ps:List (Nat × AV)} {x:AV} (h:buildSliceOp P t n ps S = some (x,S')):Ext S S':=by
 unfold buildSliceOp at h
 repeat' (split at h)
 all_goals (try (cases h;done))
 simp only [Option.some.injEq,Prod.mk.injEq] at h;obtain ⟨_,rfl⟩:=h
 exact ext_new _ _
theorem allocE_ext {t:TypeId} {x:AV} (h:allocE C t S = some (x,S')):Ext S S':=by
 unfold allocE at h
 split at h
 ·simp only [Option.some.injEq,Prod.mk.injEq] at h;obtain ⟨_,rfl⟩:=h
  exact ext_new _ _
 ·cases h
theorem boxE_ext {v x:AV} (h:boxE v S = some (x,S')):Ext S S':=by
 unfold boxE at h
 split at h
 ·simp only [Option.some.injEq,Prod.mk.injEq] at h;obtain ⟨_,rfl⟩:=h
  exact ext_new _ _
 ·cases h
def CallExt (call:CallF):Prop:=∀ f args S v S',call f args S = some (v,S') → Ext S S'
theorem opE_ext (hcall:CallExt call) {op:Op} {x:AV} (h:opE C call ev op S = some (x,S')):Ext S S':=by
 cases hf:isFlat op with
 | true=>exact (pure_of_re (f:=opE C call ev op) (fun T cs _ _=>flat_re hf) h).ext
 | false=>
  cases hr:isRead op with
  | true=>exact (pure_of_re (f:=opE C call ev op) (fun T cs e _=>read_re hr (fun b _=>by rw [e])) h).ext
  | false=>
   cases op <;> simp only [isFlat,isRead,reduceCtorEq] at hf hr <;> dsimp only [opE,opF] at h <;> (try (cases h;done))
   case convert=>rw [hr] at hf;cases hf
   case alloc=>exact allocE_ext h
   case box=>exact boxE_ext h
   case buildSlice=>exact buildSliceOp_ext h
   case makeSlice=>exact makeSliceOp_ext h
   case store t a v=>
    unfold storeE at h
    split at h
    ·rename_i h1
     simp only [Option.some.injEq,Prod.mk.injEq] at h;obtain ⟨_,rfl⟩:=h
     exact storeOp_ext h1
    ·cases h
   case call c=>
    unfold callE at h
    split at h
    ·unfold callBE at h
     split at h
     ·rename_i b hb
      cases b <;> simp only [hb,reduceCtorEq] at hf <;> simp only [builtinE] at h <;> first
       | (cases h;done)
       | exact appendE_ext h
       | exact copyOp_ext h
     ·cases h
    ·split at h
     ·split at h
      ·simp only [Option.some.injEq,Prod.mk.injEq] at h;obtain ⟨_,rfl⟩:=h
       exact .refl _
      ·exact hcall _ _ _ _ _ h
     ·cases h
theorem kinds (op:Op):isFlat op = true ∨ isRead op = true ∨ isFloat op = true ∨ isEff op = true ∨ ∀ (C:Cfg) call ev S,opE C call ev op S = none:=by
 cases op <;> simp [isFlat,isRead,isFloat,isEff,opE,opF]
 case convert s d x=>
  cases e:Nat.beq s d with
  | false=>exact .inl rfl
  | true=>exact .inr (.inl (Nat.eq_of_beq_eq_true e))
 rename_i c
 obtain ⟨callee,args,ats⟩:=c
 cases callee <;> simp
 rename_i b
 cases b <;> simp
end
section
variable {C:Cfg} {call:CallF} {ev ev':Operand → AV}
theorem evL_congr:∀ {l:List Operand},(∀ x ∈ l,ev x = ev' x) → evL ev l = evL ev' l
 | [],_=>rfl
 | x :: l,h=>by simp [evL,h x (List.mem_cons_self ..),evL_congr (l:=l) fun y hy=>h y (List.mem_cons_of_mem _ hy)]
theorem evP_congr:∀ {l:List (Nat × Operand)},(∀ p ∈ l,ev p.2 = ev' p.2) → evP ev l = evP ev' l
 | [],_=>rfl
 | (i,x) :: l,h=>by
  have:=h (i,x) (List.mem_cons_self ..)
  simp only at this
  simp [evP,this,evP_congr (l:=l) fun y hy=>h y (List.mem_cons_of_mem _ hy)]
theorem evO_congr {o:Option Operand} (h:∀ x ∈ o,ev x = ev' x):evO ev o = evO ev' o:=by
 cases o with
 | none=>rfl
 | some x=>simp [evO,h x rfl]
theorem callee_congr {c:Call} (h:∀ x ∈ c.operands,ev x = ev' x):callee C ev c = callee C ev' c:=by
 have ha:evL ev c.args.toList = evL ev' c.args.toList:=evL_congr fun x hx=>h x (by simp [Call.operands,Array.mem_def.2 hx])
 unfold callee
 rw [ha]
 cases hc:c.callee with
 | value f=>have:ev f = ev' f:=h f (by simp [Call.operands,hc]);simp only [this]
 | invoke r m=>have:ev r = ev' r:=h r (by simp [Call.operands,hc]);simp only [this]
 | builtin b=>rfl
theorem opE_congr {op:Op} (h:∀ x ∈ op.operands,ev x = ev' x) (S:St):opE C call ev op S = opE C call ev' op S:=by
 cases op <;> simp only [Op.operands] at h <;> dsimp only [opE,opF]
 case call c=>
  unfold callE callBE
  rw [callee_congr h]
  have ha:evL ev c.args.toList = evL ev' c.args.toList:=evL_congr fun x hx=>h x (by simp [Call.operands,Array.mem_def.2 hx])
  rw [ha]
 case build t ps=>rw [evP_congr fun p hp=>h p.2 (by simp;exact ⟨p.1,Array.mem_toList_iff.1 hp⟩)]
 case buildSlice t n ps=>rw [evP_congr fun p hp=>h p.2 (by simp;exact ⟨p.1,Array.mem_toList_iff.1 hp⟩)]
 case makeFunc fn first captured=>
  rw [evL_congr (l:=first.toList) fun x hx=>h x (by simp [Array.mem_def.2 hx]),evL_congr (l:=captured.toList) fun x hx=>h x (by simp [Array.mem_def.2 hx])]
 case slice t x lo hi mx=>
  have h1:ev x = ev' x:=h x (by simp)
  have h2:evO ev lo = evO ev' lo:=evO_congr fun y hy=>h y (by simp [Option.mem_def.1 hy])
  have h3:evO ev hi = evO ev' hi:=evO_congr fun y hy=>h y (by simp [Option.mem_def.1 hy])
  have h4:evO ev mx = evO ev' mx:=evO_congr fun y hy=>h y (by simp [Option.mem_def.1 hy])
  rw [h1,h2,h3,h4]
 all_goals (first | rfl | (simp_all;done))
theorem readOf_congr {P:Program} {op:Op} (h:∀ x ∈ op.operands,ev x = ev' x):readOf P ev op = readOf P ev' op:=by
 cases op <;> simp only [Op.operands] at h <;> dsimp only [readOf]
 case load t a=>rw [h a (by simp)]
 case slice t a lo hi mx=>rw [h a (by simp)]
 case convert s d x=>rw [h x (by simp)]
end
end
section
variable [RowAddr] [Co]
structure FRel (nv nt:Nat) (β:Map) (F:Fr) (a:Act):Prop where
 val:∀ t,VRel β (F.get nv t) (a.tmps.getD t undef)
 size:a.tmps.size = nt
 defers:a.defers = []
section
variable {nv nt:Nat} {β β':Map} {F:Fr} {a:Act}
theorem FRel.mono (h:FRel nv nt β F a) (hβ:Map.le β β'):FRel nv nt β' F a:=⟨fun t=>(h.val t).mono hβ,h.size,h.defers⟩
theorem FRel.ev (h:FRel nv nt β F a) (x:Operand):VRel β (F.ev nv x) (a.eval x):=by
 cases x with
 | tmp t=>exact h.val t
 | const v=>exact absV_rel β v
 | global g=>have:=VRel.gp (β:=β) (2 * g) (.c 0);rw [show gAt (2 * g) (N.c 0).v = at' g 0 from gAt_var g 0] at this;exact this
 | func f=>exact .fn (.func f) 0 [] [] [] rfl rfl (fun i x v hx=>by simp at hx)
theorem Fr.get_put_ne (nv:Nat) (F:Fr) {d t:Nat} (v:AV) (h:t ≠ d):(F.put nv (some d) v).get nv t = F.get nv t:=by
 cases hd:Nat.blt d nv with
 | true=>
  cases ht:Nat.blt t nv with
  | true=>simp only [Fr.put,hd,Fr.get,ht,lget_eq,lset_eq,List.getElem?_set_ne (Ne.symm h)]
  | false=>simp only [Fr.put,hd,Fr.get,ht]
 | false=>
  cases ht:Nat.blt t nv with
  | true=>simp only [Fr.put,hd,Fr.get,ht]
  | false=>
   simp only [Fr.put,hd,Fr.get,ht,assoc]
   cases hb:Nat.beq d t with
   | true=>exact absurd (by simpa using hb:d = t).symm h
   | false=>rfl
theorem Fr.get_put_self (nv:Nat) (F:Fr) (d:Nat) (v:AV):(F.put nv (some d) v).get nv d = v ∨ (F.put nv (some d) v).get nv d = .undef:=by
 cases hd:Nat.blt d nv with
 | true=>
  simp only [Fr.put,hd,Fr.get,lget_eq,lset_eq]
  rcases Nat.lt_or_ge d F.vars.length with h | h
  ·left;simp [h]
  ·right;simp [h]
 | false=>
  simp only [Fr.put,hd,Fr.get,assoc]
  left
  have:Nat.beq d d = true:=by simp
  simp only [this]
theorem FRel.put (h:FRel nv nt β F a) {d:Option Nat} (hd:∀ x,d = some x → x < nt) {x:AV} {v:Value} (hv:VRel β x v):FRel nv nt β (F.put nv d x) (a.put d v):=by
 cases d with
 | none=>exact h
 | some d=>
  have hlt:=hd d rfl
  refine ⟨fun t=>?_,by simp [Act.put,h.size],h.defers⟩
  have hget:(a.put (some d) v).tmps.getD t undef = if t = d then v else a.tmps.getD t undef:=by
   simp only [Act.put,Array.getD_eq_getD_getElem?,Array.getElem?_setIfInBounds]
   by_cases e:t = d
   ·subst e;simp [h.size,hlt]
   ·simp [Ne.symm e,e]
  rw [hget]
  by_cases e:t = d
  ·subst e
   rw [if_pos rfl]
   rcases Fr.get_put_self nv F t x with e | e
   ·rw [e];exact hv
   ·rw [e];exact .undef _
  ·rw [if_neg e,Fr.get_put_ne nv F x e];exact h.val t
theorem FRel.forget (h:FRel nv nt β F a) {F':Fr} (hf:∀ t,F'.get nv t = F.get nv t ∨ F'.get nv t = .undef):FRel nv nt β F' a:=
 ⟨fun t=>by rcases hf t with e | e;rw [e];exact h.val t;rw [e];exact .undef _,h.size,h.defers⟩
theorem keepOnly_get (ks:List Nat) (t:Nat):∀ l:List (Nat × AV),assoc t (keepOnly ks l) = assoc t l ∨ assoc t (keepOnly ks l) = .undef:=by
 intro l
 induction l with
 | nil=>exact .inl rfl
 | cons p l ih=>
  obtain ⟨k,v⟩:=p
  simp only [keepOnly]
  cases hk:elemN k ks with
  | true=>
   simp only [assoc]
   cases hb:Nat.beq k t with
   | true=>exact .inl rfl
   | false=>exact ih
  | false=>
   simp only [assoc]
   cases hb:Nat.beq k t with
   | true=>
    right
    have e:k = t:=by simpa using hb
    subst e
    clear ih
    induction l with
    | nil=>rfl
    | cons q l ih=>
     obtain ⟨k',v'⟩:=q
     simp only [keepOnly]
     cases hk':elemN k' ks with
     | false=>exact ih
     | true=>
      simp only [assoc]
      cases hb':Nat.beq k' k with
      | true=>
       have e:k' = k:=by simpa using hb'
       subst e;rw [hk] at hk';cases hk'
      | false=>exact ih
   | false=>exact ih
theorem FRel.keep (h:FRel nv nt β F a) (ks:List Nat):FRel nv nt β { F with tmps:=keepOnly ks F.tmps } a:=by
 refine h.forget fun t=>?_
 simp only [Fr.get]
 cases Nat.blt t nv with
 | true=>exact .inl rfl
 | false=>exact keepOnly_get ks t F.tmps
end
section
variable {P:Program} {G:Nat → Option (List AV)}
def CallOk (P:Program) (G:Nat → Option (List AV)) (call:CallF):Prop:=∀ f args S v S',call f args S = some (v,S') → Ext S S' ∧ (S'.ok → ∀ β w vs,LRel β args vs → HRel G β S.H w →
 (∃ fn,P.funcs[f]? = some fn ∧ (fn.name == "runtime.NumGoroutine") = false ∧ fn.body.isSome = true) ∧
 CallsJ P f ⟨vs⟩ w fun e w'=>∃ u β',e = .returned u ∧ VRel β' v u ∧ HRel G β' S'.H w' ∧ Stp β S.H w β' S'.H w')
def MethOk (P:Program) (meth:Nat → String → Option FuncId):Prop:=∀ t m f,meth t m = some f → ∀ v w,(method (P.types.size + Made.depth) t v m).runQ P w = .ok (f,v) w
theorem run_callFunc {f:FuncId} {fn:Func} (hf:P.funcs[f]? = some fn) (hn:(fn.name == "runtime.NumGoroutine") = false) (hb:fn.body.isSome = true) (args:Array Value) (w:World) :
 (callFunc f args).runQ P w = .ok (.enter f args) w:=by
 obtain ⟨c,hc⟩:=Option.isSome_iff_exists.1 hb
 have hn':¬ fn.name = "runtime.NumGoroutine":=by simpa using hn
 simp [callFunc,hf,hn',hc]
variable {C:Cfg} [ExtOk C]
theorem callE_spec (hG:C.glob = G) {call:CallF} (hcall:CallOk C.P G call) (hm:MethOk C.P C.meth) {β:Map} {w:World} {c:Call} {o:Oper} (ho:o.op = .call c) (hb:isBuiltin c.callee = false) {ev:Operand → AV} {ρ:Operand → Value} {x:AV} {S S':St}
 (h:callE C c call ev S = some (x,S')) (hev:∀ x,VRel β (ev x) (ρ x)) (hH:HRel G β S.H w):(S'.ok → S.ok) ∧ (S'.ok → (∃ f args,(execOp ρ o).runQ C.P w = .ok (.enter f args) w ∧
  CallsJ C.P f args w fun e w'=>∃ u β',e = .returned u ∧ VRel β' x u ∧ HRel G β' S'.H w' ∧ Stp β S.H w β' S'.H w') ∨ (S' = S ∧ ∃ u,VRel β x u ∧ (execOp ρ o).runQ C.P w = .ok (.value u) w)):=by
 unfold callE at h
 rw [hb] at h
 simp only at h
 split at h
 case h_2=>cases h
 rename_i f args hc
 have hl:=evL_rel hev c.args.toList
 have e:c.args.map ρ = ⟨c.args.toList.map ρ⟩:=by apply Array.ext';simp
 split at h
 ·rename_i v0 hx
  simp only [Option.some.injEq,Prod.mk.injEq] at h
  obtain ⟨rfl,rfl⟩:=h
  refine ⟨id,fun ok=>.inr ⟨rfl,?_⟩⟩
  unfold callee at hc
  split at hc
  ·rename_i fo hcal
   split at hc
   case h_2=>cases hc
   rename_i f' n xs hfo
   simp only [Option.some.injEq,Prod.mk.injEq] at hc
   obtain ⟨rfl,rfl⟩:=hc
   have hf:=hev fo
   rw [hfo] at hf
   generalize hρ:ρ fo = vf at hf
   cases hf
   rename_i first captured hn hlen hrel
   have hfc:LRel β xs (first ++ captured):=⟨hlen,hrel⟩
   have ht:LRel β (xs.take n) first:=by
    have:=hfc.take n;rw [← hn,List.take_left] at this;rw [hn] at this;exact this
   have hd:LRel β (xs.drop n) captured:=by
    have:=hfc.drop n;rw [← hn,List.drop_left] at this;rw [hn] at this;exact this
   obtain ⟨u,hu,hrun⟩:=ExtOk.ok _ _ _ hx β _ w ((ht.append hl).append hd)
   refine ⟨u,hu,?_⟩
   simp [execOp,ho,resolve,hcal,hρ,Deferred.ofValue,invoke,e]
   simpa using hrun
  ·rename_i r m hcal
   split at hc
   case h_2=>cases hc
   rename_i t v hr
   split at hc
   case h_2=>cases hc
   rename_i f' hmf
   simp only [Option.some.injEq,Prod.mk.injEq] at hc
   obtain ⟨rfl,rfl⟩:=hc
   have hf:=hev r
   rw [hr] at hf
   generalize hρ:ρ r = vf at hf
   cases hf
   rename_i u hu
   obtain ⟨x,hx',hrun⟩:=ExtOk.ok _ _ _ hx β _ w (LRel.cons hu hl)
   refine ⟨x,hx',?_⟩
   have e4:List.take c.args.size (List.map ρ c.args.toList) = List.map ρ c.args.toList:=List.take_of_length_le (by simp)
   simp [execOp,ho,resolve,hcal,hρ,invoke,e,callMethod,hm t m f' hmf,e4]
   simpa using hrun
  ·cases hc
 obtain ⟨h1,h2⟩:=hcall _ _ _ _ _ h
 refine ⟨h1.ok,fun ok=>.inl ?_⟩
 unfold callee at hc
 split at hc
 ·rename_i fo hcal
  split at hc
  case h_2=>cases hc
  rename_i f' n xs hfo
  simp only [Option.some.injEq,Prod.mk.injEq] at hc
  obtain ⟨rfl,rfl⟩:=hc
  have hf:=hev fo
  rw [hfo] at hf
  generalize hρ:ρ fo = vf at hf
  cases hf
  rename_i first captured hn hlen hrel
  have hfc:LRel β xs (first ++ captured):=⟨hlen,hrel⟩
  have ht:LRel β (xs.take n) first:=by
   have:=hfc.take n;rw [← hn,List.take_left] at this;rw [hn] at this;exact this
  have hd:LRel β (xs.drop n) captured:=by
   have:=hfc.drop n;rw [← hn,List.drop_left] at this;rw [hn] at this;exact this
  obtain ⟨⟨fn,hfn,hname,hbody⟩,hcalls⟩:=h2 ok β w _ ((ht.append hl).append hd) hH
  refine ⟨f',⟨first ++ c.args.toList.map ρ ++ captured⟩,?_,hcalls⟩
  have e2:((⟨first ++ c.args.toList.map ρ ++ captured⟩:Array Value)) = (⟨first⟩ ++ ⟨c.args.toList.map ρ⟩) ++ ⟨captured⟩:=by apply Array.ext';simp
  rw [e2]
  simp [execOp,ho,resolve,hcal,hρ,Deferred.ofValue,invoke,e,run_callFunc hfn hname hbody]
 ·rename_i r m hcal
  split at hc
  case h_2=>cases hc
  rename_i t v hr
  split at hc
  case h_2=>cases hc
  rename_i f' hmf
  simp only [Option.some.injEq,Prod.mk.injEq] at hc
  obtain ⟨rfl,rfl⟩:=hc
  have hf:=hev r
  rw [hr] at hf
  generalize hρ:ρ r = vf at hf
  cases hf
  rename_i u hu
  obtain ⟨⟨fn,hfn,hname,hbody⟩,hcalls⟩:=h2 ok β w _ (LRel.cons hu hl) hH
  refine ⟨f',⟨u :: c.args.toList.map ρ⟩,?_,hcalls⟩
  have e2:(⟨u :: c.args.toList.map ρ⟩:Array Value) = #[u] ++ ⟨c.args.toList.map ρ⟩:=by apply Array.ext';simp
  have e3:∀ q:Array Value,(#[Value.iface t u] ++ q).extract 1 (#[Value.iface t u] ++ q).size = q:=by
   intro q;apply Array.ext';simp
  rw [e2]
  simp [execOp,ho,resolve,hcal,hρ,invoke,e,callMethod,hm t m f' hmf,run_callFunc hfn hname hbody]
  exact List.take_of_length_le (by simp)
 ·cases hc
theorem opE_wp (hG:C.glob = G) {call:CallF} (hcall:CallOk C.P G call) (hm:MethOk C.P C.meth) {β:Map} {w:World} {a:Act} {o:Oper} {ev:Operand → AV} {x:AV} {S S':St} (h:opE C call ev o.op S = some (x,S'))
 (hev:∀ x,VRel β (ev x) (a.eval x)) (hH:HRel G β S.H w) (hd:a.defers = []) {next:Act → World → Prop} :
 (S'.ok → S.ok) ∧ (S'.ok → (∀ v w' β',VRel β' x v → HRel G β' S'.H w' → Stp β S.H w β' S'.H w' → next (a.put o.dst v) w') → o.wpj C.P a w next):=by
 suffices H:∀ w₁,HRel G β S.H w₁ → (S'.ok → S.ok) ∧ (S'.ok → (∀ v w' β',VRel β' x v → HRel G β' S'.H w' → Stp β S.H w₁ β' S'.H w' → next (a.put o.dst v) w') → ∃ r w',(execOp a.eval o).runQ C.P w₁ = .ok r w' ∧
  match r with
  | .value v=>New w₁ w' → Far w₁ w' ∧ next (a.put o.dst v) w'
  | .skip=>New w₁ w' → Far w₁ w' ∧ next (a.put o.dst undef) w'
  | .enter f args=>w' = w₁ ∧ CallsJ C.P f args w₁ fun
   | .returned v,w''=>next (a.put o.dst v) w''
   | _,_=>False
  | _=>False) by
  refine ⟨(H w hH).1,fun ok hn w₁ h₁=>(H w₁ (hH.rely h₁)).2 ok fun v w' β' q1 q2 q3=>hn v w' β' q1 q2 ((h₁.stp β S.H).trans q3)⟩
 clear hH w
 intro w hH
 unfold opE at h
 split at h
 ·rename_i f hf
  obtain ⟨h1,h2⟩:=plain_spec hG (ρ:=a.eval) (o:=o) hf h hev hH
  refine ⟨h1,fun ok hn=>?_⟩
  obtain ⟨r,v,w',e1,e2,e3,e4⟩:=h2 ok
  refine ⟨r,w',e1,?_⟩
  rcases e2 with rfl | ⟨rfl,rfl⟩
  ·exact fun n=>let ⟨β',g1,g2,g3⟩:=e4 n;⟨e3,hn v w' β' g1 g2 g3⟩
  ·exact fun n=>let ⟨β',g1,g2,g3⟩:=e4 n;⟨e3,hn _ w' β' g1 g2 g3⟩
 ·rename_i c hc
  have ho:o.op = .call c:=by
   cases hop:o.op <;> rw [hop] at hc <;> simp only [opF,reduceCtorEq,OpF.call.injEq] at hc
   rw [hc]
  cases hb:isBuiltin c.callee with
  | true=>
   unfold callE at h
   rw [hb] at h
   obtain ⟨h1,h2⟩:=builtin_spec (ρ:=a.eval) ho h hev hH
   refine ⟨h1,fun ok hn=>?_⟩
   obtain ⟨r,v,w',e1,e2,e3,e4⟩:=h2 ok
   refine ⟨r,w',e1,?_⟩
   rcases e2 with rfl | ⟨rfl,rfl⟩
   ·exact fun n=>let ⟨β',g1,g2,g3⟩:=e4 n;⟨e3,hn v w' β' g1 g2 g3⟩
   ·exact fun n=>let ⟨β',g1,g2,g3⟩:=e4 n;⟨e3,hn _ w' β' g1 g2 g3⟩
  | false=>
   obtain ⟨h1,h2⟩:=callE_spec hG hcall hm ho hb (ρ:=a.eval) h hev hH
   refine ⟨h1,fun ok hn=>?_⟩
   rcases h2 ok with ⟨f,args,e1,e2⟩ | ⟨rfl,u,hu,e1⟩
   ·refine ⟨_,_,e1,rfl,e2.mono ?_⟩
    rintro e w' ⟨u,β',rfl,g1,g2,g3⟩
    exact hn u w' β' g1 g2 g3
   ·exact ⟨_,_,e1,fun _=>⟨Far.refl _,hn u _ β hu hH (Stp.refl _ _ _)⟩⟩
theorem VRel.tup0_inv {β:Map} {v:Value} (h:VRel β (.obj .tup []) v):v = .tuple #[]:=by
 cases h with
 | tup xs vs hl _=>
  cases vs with
  | nil=>rfl
  | cons _ _=>simp at hl
theorem VRel.tup0 (β:Map):VRel β (.obj .tup []) Go.undef:=.tup [] [] rfl (fun i x v h _=>by simp at h)
theorem guard_spec {nv nt:Nat} {β:Map} {F:Fr} {a:Act} (hF:FRel nv nt β F a) {ops:Array Oper} {o:Oper} {S S':St} {b:Bool} (h:guardOk ops.toList (F.ev nv) o.guard S = some (b,S')) :
 Pure S S' ∧ (S'.ok → Region.wanted o (yielded ops a.tmps) = b):=by
 unfold guardOk at h
 split at h
 ·rename_i hg
  simp only [Option.some.injEq,Prod.mk.injEq] at h
  obtain ⟨rfl,rfl⟩:=h
  exact ⟨Pure.refl _,fun _=>by simp [Region.wanted,hg]⟩
 ·rename_i j want hg
  rw [lget_eq] at h
  cases hj:ops.toList[j]? with
  | none=>simp [hj] at h
  | some o'=>
   simp only [hj] at h
   split at h
   ·cases h
   rename_i d hd
   split at h
   case h_3=>cases h
   case h_2=>
    rename_i hbb
    simp only [Option.some.injEq,Prod.mk.injEq] at h
    obtain ⟨rfl,rfl⟩:=h
    refine ⟨Pure.refl _,fun _=>?_⟩
    have hval:=hF.val d
    have hbb':F.get nv d = .obj .tup []:=hbb
    rw [hbb'] at hval
    have e:=hval.tup0_inv
    have hj':ops[j]? = some o':=by simpa using hj
    have hy:yielded ops a.tmps j = none:=by
     rcases Nat.lt_or_ge d a.tmps.size with hlt | hlt
     ·have e2:a.tmps[d]? = some (.tuple #[]):=by
       simp only [Array.getD_eq_getD_getElem?,Array.getElem?_eq_getElem hlt,Option.getD_some] at e
       rw [Array.getElem?_eq_getElem hlt,e]
      simp [yielded,hj',hd,e2]
     ·simp [yielded,hj',hd,Array.getElem?_eq_none hlt]
    simp [Region.wanted,hg,hy]
   rename_i bb hbb
   split at h
   case h_2=>cases h
   rename_i t S1 ht
   simp only [Option.some.injEq,Prod.mk.injEq] at h
   obtain ⟨rfl,rfl⟩:=h
   obtain ⟨hp,hv⟩:=B.test_spec ht
   refine ⟨hp,fun ok=>?_⟩
   have hval:=hF.val d
   have hbb':F.get nv d = .atom (.bool bb):=hbb
   rw [hbb'] at hval
   have e:=hval.bool_inv
   have hlt:d < a.tmps.size:=by
    rcases Nat.lt_or_ge d a.tmps.size with h | h
    ·exact h
    ·simp [Array.getD_eq_getD_getElem?,Array.getElem?_eq_none h,undef] at e
   have e2:a.tmps[d]? = some (.bool bb.v):=by
    simp only [Array.getD_eq_getD_getElem?,Array.getElem?_eq_getElem hlt,Option.getD_some] at e
    rw [Array.getElem?_eq_getElem hlt,e]
   have hj':ops[j]? = some o':=by simpa using hj
   have hy:yielded ops a.tmps j = some bb.v:=by
    simp [yielded,hj',hd,e2]
   simp [Region.wanted,hg,hy,hv ok]
def DstOk (nt:Nat) (ops:List Oper):Prop:=∀ o ∈ ops,∀ d,o.dst = some d → d < nt
theorem guard_pure {ops:List Oper} {ev:Operand → AV} {g:Option (Nat × Bool)} {S S':St} {b:Bool} (h:guardOk ops ev g S = some (b,S')):Pure S S':=by
 unfold guardOk at h
 repeat' (split at h)
 all_goals (try (cases h;done))
 ·simp only [Option.some.injEq,Prod.mk.injEq] at h;obtain ⟨_,rfl⟩:=h;exact Pure.refl _
 ·simp only [Option.some.injEq,Prod.mk.injEq] at h;obtain ⟨_,rfl⟩:=h
  exact (B.test_spec ‹B.test _ _ = some _›).1
 ·simp only [Option.some.injEq,Prod.mk.injEq] at h;obtain ⟨_,rfl⟩:=h;exact Pure.refl _
theorem runOps_ext {call:CallF} (hcall:CallExt call) {nv:Nat} {ops:List Oper}:∀ (r:List Oper) (F F':Fr) (S S':St),runOps C call nv ops r F S = some (F',S') → Ext S S':=by
 intro r
 induction r with
 | nil=>
  intro F F' S S' h
  simp only [runOps,Option.some.injEq,Prod.mk.injEq] at h
  obtain ⟨_,rfl⟩:=h;exact Ext.refl _
 | cons o r ih=>
  intro F F' S S' h
  simp only [runOps] at h
  split at h
  ·cases h
  ·rename_i S1 hg;exact (guard_pure hg).ext.trans (ih _ _ _ _ h)
  ·rename_i S1 hg
   split at h
   ·cases h
   rename_i x S2 hop
   exact ((guard_pure hg).ext.trans (opE_ext hcall hop)).trans (ih _ _ _ _ h)
theorem CallOk.ext {call:CallF} (h:CallOk C.P G call):CallExt call:=fun f args S v S' hc=>(h f args S v S' hc).1
theorem runOps_wp (hG:C.glob = G) {call:CallF} (hcall:CallOk C.P G call) (hm:MethOk C.P C.meth) {nv nt:Nat} {ops:Array Oper} (hd:DstOk nt ops.toList) {Q:Exit → Act → World → Prop} :
 ∀ (r:List Oper) (i:Nat) (F F':Fr) (S S':St) (β:Map) (a:Act) (w:World),ops.toList.drop i = r → runOps C call nv ops.toList r F S = some (F',S') → S'.ok → FRel nv nt β F a → HRel G β S.H w →
  (∀ a' w' β',FRel nv nt β' F' a' → HRel G β' S'.H w' → Stp β S.H w β' S'.H w' → Q .normal a' w') → wpOpsJ C.P ops Q (List.range' i r.length) a w:=by
 intro r
 induction r with
 | nil=>
  intro i F F' S S' β a w hr h ok hF hH hQ
  simp only [runOps,Option.some.injEq,Prod.mk.injEq] at h
  obtain ⟨rfl,rfl⟩:=h
  exact hQ a w β hF hH (Stp.refl ..)
 | cons o r ih=>
  intro i F F' S S' β a w hr h ok hF hH hQ
  have hoi:ops[i]? = some o:=by
   have:(ops.toList.drop i)[0]? = some o:=by rw [hr];rfl
   simpa using this
  have hr':ops.toList.drop (i + 1) = r:=by
   have:=congrArg (List.drop 1) hr
   rw [List.drop_drop] at this;simpa [Nat.add_comm] using this
  have hdo:∀ x,o.dst = some x → x < nt:=fun x hx=>hd o (List.mem_of_mem_drop (by rw [hr];exact List.mem_cons_self ..)) x hx
  simp only [runOps] at h
  rw [List.length_cons,List.range'_succ,wpOpsJ,hoi]
  simp only
  split at h
  ·cases h
  ·rename_i S1 hg
   obtain ⟨hp,hv⟩:=guard_spec hF hg
   have ok1:=(runOps_ext hcall.ext r _ _ _ _ h).ok ok
   rw [hv ok1]
   simp only [Bool.false_eq_true,if_false]
   refine ih (i + 1) _ _ _ _ β _ w hr' h ok (hF.put hdo (.tup0 _)) (by rw [hp.H];exact hH) ?_
   intro a' w' β' g1 g2 g3
   rw [hp.H] at g3
   exact hQ a' w' β' g1 g2 g3
  ·rename_i S1 hg
   obtain ⟨hp,hv⟩:=guard_spec hF hg
   split at h
   ·cases h
   rename_i x S2 hop
   have ok2:=(runOps_ext hcall.ext r _ _ _ _ h).ok ok
   have hH1:HRel G β S1.H w:=by rw [hp.H];exact hH
   obtain ⟨m1,m2⟩:=opE_wp hG hcall hm (o:=o) (a:=a) (next:=wpOpsJ C.P ops Q (List.range' (i + 1) r.length)) hop (fun x=>hF.ev x) hH1 hF.defers
   rw [hv (m1 ok2)]
   simp only [if_true]
   refine m2 ok2 fun v w' β' g1 g2 g3=>?_
   refine ih (i + 1) _ _ _ _ β' _ w' hr' h ok ((hF.mono g3.le).put hdo g1) g2 ?_
   intro a' w'' β'' k1 k2 k3
   rw [hp.H] at g3
   exact hQ a' w'' β'' k1 k2 (g3.trans k3)
end
end
section
variable [RowAddr] [Co]
open Region
def Closed (ops:Array Oper) (D:Nat → Prop):Prop:=∀ i o,ops[i]? = some o → D i → ∀ e ∈ o.after,binds .any e = true → D e.on
def bef (ops:Array Oper) (i k:Nat):Prop:=((before ops).getD i 0).testBit k = true
theorem foldl_testBit {α:Type} (f:α → Option Nat) (k:Nat):∀ (l:List α) (s:Nat),(l.foldl (fun s e=>match f e with | some m=>s ||| m | none=>s) s).testBit k = true → s.testBit k = true ∨ ∃ e ∈ l,∃ m,f e = some m ∧ m.testBit k = true
 | [],s,h=>.inl h
 | e :: l,s,h=>by
  simp only [List.foldl_cons] at h
  rcases foldl_testBit f k l _ h with h | ⟨e',he,h⟩
  ·cases hf:f e with
   | none=>simp only [hf] at h;exact .inl h
   | some m=>
    simp only [hf,Nat.testBit_or,Bool.or_eq_true] at h
    rcases h with h | h
    ·exact .inl h
    ·exact .inr ⟨e,List.mem_cons_self ..,m,hf,h⟩
  ·exact .inr ⟨e',List.mem_cons_of_mem _ he,h⟩
theorem bef_spec {ops:Array Oper} {D:Nat → Prop} (hD:Closed ops D):∀ (i k:Nat) (o:Oper),ops[i]? = some o → bef ops i k → (∀ e ∈ o.after,binds .any e = true → D e.on) → D k:=by
 have key:∀ (r:List Oper) (acc:Array Nat),ops.toList.drop acc.size = r → acc.size ≤ ops.size →
  (∀ i,i < acc.size → ∀ k o,ops[i]? = some o → (acc.getD i 0).testBit k = true → (∀ e ∈ o.after,binds .any e = true → D e.on) → D k) →
  ∀ i k o,ops[i]? = some o → ((r.foldl (fun acc o=>acc.push (o.after.foldl (fun s e=>if binds .any e then s ||| 2 ^ e.on ||| acc.getD e.on 0 else s) 0)) acc).getD i 0).testBit k = true →
   (∀ e ∈ o.after,binds .any e = true → D e.on) → D k:=by
  intro r
  induction r with
  | nil=>
   intro acc hr hle hI i k o ho hb he
   simp only [List.foldl_nil] at hb
   rcases Nat.lt_or_ge i acc.size with h | h
   ·exact hI i h k o ho hb he
   ·simp [Array.getD_eq_getD_getElem?,Array.getElem?_eq_none h] at hb
  | cons o r ih=>
   intro acc hr hle hI i k o' ho hb he
   have hlt:acc.size < ops.size:=by
    rcases Nat.lt_or_ge acc.size ops.size with h | h
    ·exact h
    ·rw [List.drop_of_length_le (by simpa using h)] at hr;cases hr
   have hoi:ops[acc.size]? = some o:=by
    have:(ops.toList.drop acc.size)[0]? = some o:=by rw [hr];rfl
    simpa using this
   simp only [List.foldl_cons] at hb
   refine ih _ (by rw [Array.size_push,← List.drop_drop,hr];rfl) (by rw [Array.size_push];omega) ?_ i k o' ho hb he
   intro i' hi' k' o'' ho'' hb' he'
   rw [Array.size_push] at hi'
   rcases Nat.lt_or_ge i' acc.size with h | h
   ·have e:∀ v,(acc.push v).getD i' 0 = acc.getD i' 0:=by
     intro v
     simp [Array.getD_eq_getD_getElem?,Array.getElem?_push,Nat.ne_of_lt h]
    rw [e] at hb'
    exact hI i' h k' o'' ho'' hb' he'
   ·have h':i' = acc.size:=by omega
    subst h'
    rw [hoi] at ho'';injection ho'' with ho'';subst ho''
    have e:∀ v,(acc.push v).getD acc.size 0 = v:=by
     intro v
     simp [Array.getD_eq_getD_getElem?]
    rw [e,← Array.foldl_toList] at hb'
    have e2:(fun (s:Nat) (e:Edge)=>if binds .any e then s ||| 2 ^ e.on ||| acc.getD e.on 0 else s) = (fun s e=>match (if binds .any e then some (2 ^ e.on ||| acc.getD e.on 0) else none:Option Nat) with | some m=>s ||| m | none=>s):=by
     funext s e
     by_cases h:binds .any e = true
     ·simp [h,Nat.or_assoc]
     ·simp [h]
    rw [e2] at hb'
    rcases foldl_testBit _ k' _ _ hb' with h0 | ⟨e',hm,m,hf,hk⟩
    ·simp at h0
    ·split at hf
     case isFalse=>cases hf
     rename_i hbind
     injection hf with hf;subst hf
     have hDe:=he' e' (Array.mem_def.2 hm) hbind
     rw [Nat.testBit_or,Bool.or_eq_true] at hk
     rcases hk with hk | hk
     ·rw [Nat.testBit_two_pow] at hk
      have:e'.on = k':=by simpa using hk
      rw [← this];exact hDe
     ·rcases Nat.lt_or_ge e'.on acc.size with h2 | h2
      ·have hlt2:e'.on < ops.size:=by omega
       exact hI e'.on h2 k' ops[e'.on] (Array.getElem?_eq_getElem hlt2) hk (fun e he hb=>hD e'.on _ (Array.getElem?_eq_getElem hlt2) hDe e he hb)
      ·simp [Array.getD_eq_getD_getElem?,Array.getElem?_eq_none h2] at hk
 intro i k o ho hb he
 refine key ops.toList #[] (by simp) (by simp) (fun i h=>by simp at h) i k o ho ?_ he
 unfold bef before at hb
 rw [← Array.foldl_toList] at hb
 exact hb
theorem befOf_eq (ops:Array Oper) (i k:Nat):(befOf ops i).testBit k = true ↔ bef ops i k:=by
 unfold befOf bef;rw [CheckFast.beforeF_eq]
def readsP (P:Program) (op:Op):Bool:=
 match op with
 | .load ..=>true
 | .slice t _ _ _ _=>isArr P t
 | .convert s d _=>Nat.beq s d
 | _=>false
def dstIn (d:Option Nat) (l:List Nat):Bool:=
 match d with
 | some d=>elemN d l
 | none=>false
def dstEq (d e:Option Nat):Bool:=
 match d with
 | some d=>
  match e with
  | some e=>Nat.beq d e
  | none=>false
 | none=>false
def pairW (P:Program) (dyn:Bool) (a:Oper) (la:List Nat) (b:Oper) (lb:List Nat):Bool:=
 !(dstIn a.dst lb) && !(dstIn b.dst la) && !(dstEq a.dst b.dst) &&
 !(isEff a.op && isEff b.op) && !(isFloat a.op && (isEff b.op || readsP P b.op)) &&
 (dyn || (!(readsP P a.op && isEff b.op) && !(isEff a.op && readsP P b.op)))
def rowOk (P:Program) (dyn:Bool) (b:Oper) (lb:List Nat) (bb:Nat):List (Oper × List Nat) → Nat → Bool
 | [],_=>true
 | (a,la) :: r,k=>
  match bb.testBit k with
  | true=>rowOk P dyn b lb bb r (k + 1)
  | false=>
   match pairW P dyn a la b lb with
   | true=>rowOk P dyn b lb bb r (k + 1)
   | false=>false
def rowsOk (P:Program) (dyn:Bool):List (Oper × List Nat) → List Nat → List (Oper × List Nat) → Bool
 | [],_,_=>true
 | _ :: _,[],_=>false
 | (b,lb) :: r,bb :: bs,prev=>
  match rowOk P dyn b lb bb prev 0 with
  | true=>rowsOk P dyn r bs (prev ++ [(b,lb)])
  | false=>false
def edgesOk:List Oper → Nat → Bool
 | [],_=>true
 | o :: r,i=>
  match o.after.toList.all fun e=>!binds .any e || Nat.blt e.on i with
  | true=>edgesOk r (i + 1)
  | false=>false
def dstsOk (nt:Nat):List Oper → Bool
 | []=>true
 | o :: r=>
  match o.dst with
  | some d=>
   match Nat.blt d nt with
   | true=>dstsOk nt r
   | false=>false
  | none=>dstsOk nt r
def looksL (ops:Array Oper):List Oper → List (Oper × List Nat)
 | []=>[]
 | o :: r=>(o,Oper.looksAt ops o) :: looksL ops r
def regOk (P:Program) (nt:Nat) (dyn:Bool) (ops:Array Oper) (draw:Bool):Bool:=
 match dstsOk nt ops.toList with
 | false=>false
 | true=>
  match draw with
  | false=>true
  | true=>
   match edgesOk ops.toList 0 with
   | false=>false
   | true=>rowsOk P dyn (looksL ops ops.toList) (CheckFast.beforeF ops).toList []
theorem dstsOk_spec {nt:Nat}:∀ {l:List Oper},dstsOk nt l = true → DstOk nt l
 | [],_=>fun o ho=>by cases ho
 | o :: r,h=>by
  simp only [dstsOk] at h
  intro o' ho' d hd
  rcases List.mem_cons.1 ho' with rfl | ho'
  ·rw [hd] at h
   simp only at h
   cases hb:Nat.blt d nt with
   | false=>simp [hb] at h
   | true=>simpa using hb
  ·cases hod:o.dst with
   | none=>rw [hod] at h;exact dstsOk_spec h o' ho' d hd
   | some d'=>
    rw [hod] at h
    simp only at h
    cases hb:Nat.blt d' nt with
    | false=>simp [hb] at h
    | true=>simp only [hb] at h;exact dstsOk_spec h o' ho' d hd
theorem edgesOk_spec:∀ {l:List Oper} {i:Nat},edgesOk l i = true → ∀ (j:Nat) o,l[j]? = some o → ∀ e ∈ o.after,binds .any e = true → e.on < i + j
 | [],_,_=>fun j o ho=>by simp at ho
 | o :: r,i,h=>by
  simp only [edgesOk] at h
  split at h
  ·rename_i ha
   intro j o' ho' e he hb
   cases j with
   | zero=>
    simp at ho';subst ho'
    have:=List.all_eq_true.1 ha e (Array.mem_toList_iff.2 he)
    simp [hb] at this;omega
   | succ j=>
    have:=edgesOk_spec h j o' (by simpa using ho') e he hb
    omega
  ·cases h
theorem rowOk_spec {P:Program} {dyn:Bool} {b:Oper} {lb:List Nat} {bb:Nat}:∀ {l:List (Oper × List Nat)} {i:Nat},rowOk P dyn b lb bb l i = true →
 ∀ (k:Nat) p,l[k]? = some p → bb.testBit (i + k) = true ∨ pairW P dyn p.1 p.2 b lb = true
 | [],_,_=>fun k p hp=>by simp at hp
 | (a,la) :: r,i,h=>by
  intro k p hp
  simp only [rowOk] at h
  cases k with
  | zero=>
   simp at hp;subst hp
   split at h
   ·exact .inl (by assumption)
   ·split at h
    ·exact .inr (by assumption)
    ·cases h
  | succ k=>
   have e:i + (k + 1) = (i + 1) + k:=by omega
   rw [e]
   split at h
   ·exact rowOk_spec h k p (by simpa using hp)
   ·split at h
    ·exact rowOk_spec h k p (by simpa using hp)
    ·cases h
theorem rowsOk_spec {P:Program} {dyn:Bool}:∀ {l:List (Oper × List Nat)} {bs:List Nat} {prev:List (Oper × List Nat)},rowsOk P dyn l bs prev = true →
 ∀ (j:Nat) p,l[j]? = some p → ∃ bb,bs[j]? = some bb ∧ ∀ (k:Nat) q,(prev ++ l.take j)[k]? = some q → bb.testBit k = true ∨ pairW P dyn q.1 q.2 p.1 p.2 = true
 | [],_,_,_=>fun j p hp=>by simp at hp
 | _ :: _,[],_,h=>by simp [rowsOk] at h
 | (b,lb) :: r,bb :: bs,prev,h=>by
  intro j p hp
  simp only [rowsOk] at h
  split at h
  case h_2=>cases h
  rename_i hr
  cases j with
  | zero=>
   simp at hp;subst hp
   refine ⟨bb,rfl,fun k q hq=>?_⟩
   have:=rowOk_spec hr k q (by simpa using hq)
   simpa using this
  | succ j=>
   obtain ⟨bb',h1,h2⟩:=rowsOk_spec h j p (by simpa using hp)
   refine ⟨bb',by simpa using h1,fun k q hq=>h2 k q ?_⟩
   simpa using hq
theorem looksL_get (ops:Array Oper):∀ (l:List Oper) (i:Nat),(looksL ops l)[i]? = (l[i]?).map fun o=>(o,Oper.looksAt ops o)
 | [],i=>by simp [looksL]
 | o :: r,0=>by simp [looksL]
 | o :: r,i + 1=>by simp [looksL,looksL_get ops r i]
theorem regOk_pair {P:Program} {nt:Nat} {dyn:Bool} {ops:Array Oper} (h:regOk P nt dyn ops true = true) {k j:Nat} {a b:Oper} (hkj:k < j) (ha:ops[k]? = some a) (hb:ops[j]? = some b) :
 bef ops j k ∨ pairW P dyn a (Oper.looksAt ops a) b (Oper.looksAt ops b) = true:=by
 unfold regOk at h
 split at h
 ·cases h
 simp only at h
 split at h
 ·cases h
 have hb':(looksL ops ops.toList)[j]? = some (b,Oper.looksAt ops b):=by rw [looksL_get];simp [hb]
 obtain ⟨bb,h1,h2⟩:=rowsOk_spec h j _ hb'
 have:=h2 k (a,Oper.looksAt ops a) (by
  rw [List.nil_append,List.getElem?_take,if_pos hkj,looksL_get];simp [ha])
 refine this.imp (fun hh=>?_) id
 have e:(before ops).getD j 0 = bb:=by
  rw [← CheckFast.beforeF_eq]
  simp only [Array.getElem?_toList] at h1
  simp [Array.getD_eq_getD_getElem?,h1]
 unfold bef;rw [e];exact hh
theorem regOk_dst {P:Program} {nt:Nat} {dyn:Bool} {ops:Array Oper} {draw:Bool} (h:regOk P nt dyn ops draw = true):DstOk nt ops.toList:=by
 unfold regOk at h
 split at h
 ·cases h
 ·exact dstsOk_spec (by assumption)
theorem regOk_edges {P:Program} {nt:Nat} {dyn:Bool} {ops:Array Oper} (h:regOk P nt dyn ops true = true):∀ (j:Nat) o,ops[j]? = some o → ∀ e ∈ o.after,binds .any e = true → e.on < j:=by
 unfold regOk at h
 split at h
 ·cases h
 simp only at h
 split at h
 ·cases h
 rename_i he
 intro j o ho e hm hb
 have:=edgesOk_spec he j o (by simpa using ho) e hm hb
 omega
end
section
variable [RowAddr] [Co]
open Region
section
open Classical
noncomputable def last (D Ch:Nat → Prop):Nat → Nat
 | 0=>0
 | n + 1=>if D n ∧ Ch n then n + 1 else last D Ch n
variable {α:Type} {x:Nat → α} {D Ch:Nat → Prop}
theorem last_agree {i n:Nat} (hx:∀ k,k < n → ¬ Ch k → x (k + 1) = x k) (hin:i ≤ n) (h:∀ k,k < n → Ch k → (D k ↔ k < i)):x (last D Ch n) = x i:=by
 have key:∀ m,m ≤ n → x (last D Ch m) = x (min m i):=by
  intro m
  induction m with
  | zero=>intro _;simp [last]
  | succ m ih=>
   intro hm
   simp only [last]
   split
   ·rename_i hc
    have:=(h m (by omega) hc.2).1 hc.1
    rw [Nat.min_eq_left (by omega)]
   ·rename_i hc
    rw [ih (by omega)]
    rcases Nat.lt_or_ge m i with hmi | hmi
    ·rw [Nat.min_eq_left (by omega),Nat.min_eq_left (by omega)]
     refine (hx m (by omega) fun hch=>hc ⟨(h m (by omega) hch).2 hmi,hch⟩).symm
    ·rw [Nat.min_eq_right (by omega),Nat.min_eq_right (by omega)]
 rw [key n (Nat.le_refl _),Nat.min_eq_right hin]
theorem last_new {i n:Nat} (hi:i < n) (hc:Ch i) (h:∀ k,i < k → k < n → Ch k → ¬ D k):last (fun k=>D k ∨ k = i) Ch n = i + 1:=by
 have key:∀ m,i < m → m ≤ n → last (fun k=>D k ∨ k = i) Ch m = i + 1:=by
  intro m
  induction m with
  | zero=>intro h;omega
  | succ m ih=>
   intro h1 h2
   simp only [last]
   rcases Nat.lt_or_ge i m with hm | hm
   ·rw [if_neg,ih hm (by omega)]
    rintro ⟨h3,h4⟩
    rcases h3 with h3 | h3
    ·exact h m hm (by omega) h4 h3
    ·omega
   ·have:m = i:=by omega
    subst this
    rw [if_pos ⟨.inr rfl,hc⟩]
 exact key n hi (Nat.le_refl _)
theorem last_same {i n:Nat} (hc:¬ Ch i):last (fun k=>D k ∨ k = i) Ch n = last D Ch n:=by
 induction n with
 | zero=>rfl
 | succ n ih=>
  simp only [last,ih]
  by_cases h:D n ∧ Ch n
  ·rw [if_pos h,if_pos ⟨.inl h.1,h.2⟩]
  ·rw [if_neg h,if_neg]
   rintro ⟨h1 | h1,h2⟩
   ·exact h ⟨h1,h2⟩
   ·subst h1;exact hc h2
end
section
variable {G:Nat → Option (List AV)} {β β':Map} {w w':World} {H Hc H' H2:List Blk}
theorem HRel.view (hH:HRel G β H w) (hl:Hc.length = H.length) (hsub:∀ (b:Nat) k,Hc[b]? = some k → k.mode.alive → H[b]? = some k):HRel G β Hc w:=
 ⟨fun b k hk ha=>hH.blk b k (hsub b k hk ha) ha,fun b b' k k' L L' hne hk hk' ho ha=>hH.dis b b' k k' L L' hne (hsub b k hk (own_alive ho)) (hsub b' k' hk' ha) ho ha,
  fun b L h=>by rw [hl];exact hH.dom b L h,hH.glob,fun b k L hk ho=>hH.apart b k L (hsub b k hk (own_alive ho)) ho⟩
theorem HRel.revive (hH:HRel G β H w) (hl:Hc.length = H.length) (hsub:∀ (b:Nat) k,Hc[b]? = some k → k.mode.alive → H[b]? = some k)
 (h':HRel G β' H' w') (hs:Stp β Hc w β' H' w') (A:Nat → Prop) (hl2:H2.length = H'.length)
 (hA:∀ b,A b → H2[b]? = H[b]? ∧ (∀ k',Hc[b]? = some k' → k'.mode = .dead) ∧ ∀ k,H[b]? = some k → k.mode.alive → k.mode = .own ∧ ∃ L,β b = some L) (hN:∀ b,¬ A b → H2[b]? = H'[b]?)
 (hro:∀ (b:Nat) k,H'[b]? = some k → k.mode = .ro → Hc[b]? = some k):HRel G β' H2 w' ∧ Stp β H w β' H2 w':=by
 have hlt:∀ b k,H[b]? = some k → b < Hc.length:=by
  intro b k hk
  rw [hl]
  rcases Nat.lt_or_ge b H.length with h | h
  ·exact h
  ·rw [List.getElem?_eq_none h] at hk;cases hk
 have hltc:∀ b k,Hc[b]? = some k → b < Hc.length:=by
  intro b k hk
  rcases Nat.lt_or_ge b Hc.length with h | h
  ·exact h
  ·rw [List.getElem?_eq_none h] at hk;cases hk
 have hno:∀ b k L,H[b]? = some k → k.mode = .own → β b = some L → (∀ k',Hc[b]? = some k' → k'.mode = .dead) → ¬ Own β Hc L.c:=by
  rintro b k L hk ho hL hd ⟨b2,k2,L2,hk2,ho2,hL2,hc⟩
  have hne:b ≠ b2:=by
   intro e;subst e
   have:=hd k2 hk2;rw [ho2] at this;cases this
  exact hH.dis b b2 k k2 L L2 hne hk (hsub b2 k2 hk2 (own_alive ho2)) ho (own_alive ho2) hL hL2 hc.symm
 have hlc:∀ b k L,H[b]? = some k → k.mode = .own → β b = some L → L.c < w.heap.size:=fun b k L hk ho hL=>hH.lt hk (own_alive ho) hL
 have hb:∀ b k,H2[b]? = some k → k.mode.alive → (A b ∧ H[b]? = some k ∧ k.mode = .own ∧ (∃ L,β b = some L) ∧ ∀ k',Hc[b]? = some k' → k'.mode = .dead) ∨ (¬ A b ∧ H'[b]? = some k):=by
  intro b k hk ha
  by_cases h:A b
  ·obtain ⟨a1,a2,a3⟩:=hA b h
   rw [a1] at hk
   obtain ⟨a4,a5⟩:=a3 k hk ha
   exact .inl ⟨h,hk,a4,a5,a2⟩
  ·rw [hN b h] at hk;exact .inr ⟨h,hk⟩
 refine ⟨⟨?_,?_,?_,h'.glob,?_⟩,⟨hs.le,by rw [hl2,← hl];exact hs.len,hs.os,hs.tape,hs.output,hs.size,?_,?_,fun b hb=>hs.old b (by rw [hl];exact hb)⟩⟩
 ·intro b k hk ha
  rcases hb b k hk ha with ⟨_,hk,ho,⟨L,hL⟩,hd⟩ | ⟨_,hk⟩
  ·rcases hH.blk b k hk ha with ⟨L',hL',hbr⟩ | ⟨_,hn⟩
   ·rw [hL] at hL';injection hL' with e;subst e
    exact .inl ⟨L,hs.le b L hL,hbr.mono hs.le hs.size (hs.kept _ (hlc b k L hk ho hL) (hno b k L hk ho hL hd))⟩
   ·rw [hL] at hn;cases hn
  ·exact h'.blk b k hk ha
 ·
  have key:∀ b b' k k' L L',b ≠ b' → H[b]? = some k → k.mode = .own → β b = some L → (∀ k',Hc[b]? = some k' → k'.mode = .dead) → H'[b']? = some k' → k'.mode.alive → β' b' = some L' → L.c ≠ L'.c:=by
   intro b b' k k' L L' hne hk ho hL hd hk' ha hL' e
   cases hm:k'.mode with
   | own=>
    exact hno b k L hk ho hL hd (hs.own _ (hlc b k L hk ho hL) ⟨b',k',L',hk',hm,hL',e.symm⟩)
   | ro=>
    have h1:=hro b' k' hk' hm
    have h2:=hsub b' k' h1 ha
    rw [hs.old b' (hltc b' k' h1)] at hL'
    exact hH.dis b b' k k' L L' hne hk h2 ho ha hL hL' e
   | dead=>exact ha hm
  intro b b' k k' L L' hne hk hk' ho ha hL hL'
  rcases hb b k hk (own_alive ho) with ⟨_,hk,ho1,⟨L1,hL1⟩,hd⟩ | ⟨_,hk⟩
  ·have e1:L1 = L:=by rw [hs.le b L1 hL1] at hL;injection hL
   subst e1
   rcases hb b' k' hk' ha with ⟨_,hk',ho2,⟨L2,hL2⟩,hd'⟩ | ⟨_,hk'⟩
   ·have e2:L2 = L':=by rw [hs.le b' L2 hL2] at hL';injection hL'
    subst e2
    exact hH.dis b b' k k' _ _ hne hk hk' ho ha hL1 hL2
   ·exact key b b' k k' _ _ hne hk ho1 hL1 hd hk' ha hL'
  ·rcases hb b' k' hk' ha with ⟨_,hk',ho2,⟨L2,hL2⟩,hd'⟩ | ⟨_,hk'⟩
   ·have e2:L2 = L':=by rw [hs.le b' L2 hL2] at hL';injection hL'
    subst e2
    exact (key b' b k' k _ _ (Ne.symm hne) hk' ho2 hL2 hd' hk (own_alive ho) hL).symm
   ·exact h'.dis b b' k k' L L' hne hk hk' ho ha hL hL'
 ·intro b L h;rw [hl2];exact h'.dom b L h
 ·intro b k L hk ho hL
  rcases hb b k hk (own_alive ho) with ⟨_,hk,_,⟨L1,hL1⟩,_⟩ | ⟨_,hk⟩
  ·have e1:L1 = L:=by rw [hs.le b L1 hL1] at hL;injection hL
   subst e1
   exact hH.apart b k _ hk ho hL1
  ·exact h'.apart b k L hk ho hL
 ·intro c hc hn
  refine hs.kept c hc fun ⟨b,k,L,hk,ho,hL,hLc⟩=>hn ⟨b,k,L,hsub b k hk (own_alive ho),ho,hL,hLc⟩
 ·intro c hc ⟨b,k,L,hk,ho,hL,hLc⟩
  rcases hb b k hk (own_alive ho) with ⟨_,hk,_,⟨L1,hL1⟩,_⟩ | ⟨_,hk⟩
  ·have e1:L1 = L:=by rw [hs.le b L1 hL1] at hL;injection hL
   subst e1
   exact ⟨b,k,_,hk,ho,hL1,hLc⟩
  ·obtain ⟨b2,k2,L2,hk2,ho2,hL2,hc2⟩:=hs.own c hc ⟨b,k,L,hk,ho,hL,hLc⟩
   exact ⟨b2,k2,L2,hsub b2 k2 hk2 (own_alive ho2),ho2,hL2,hc2⟩
theorem HRel.newAt (hH:HRel G β H w) {b:Nat} {k0:Blk} (hb:H[b]? = some k0) (hn:β b = none) (d:Data) (vs:List Value) (t:TypeId) (hd:d.len ≤ vs.length) (hr:LRel β d.list (vs.take d.len)) (hmi:Co.mine w.heap.size) :
 HRel G (β.put b ⟨w.heap.size,0,vs.length⟩) (H.set b ⟨d,.own⟩) (w.alloc (.cells ⟨vs⟩ t)) ∧
 (∀ c,c < w.heap.size → (w.alloc (.cells ⟨vs⟩ t)).heap[c]? = w.heap[c]?) ∧ (∀ c,c < w.heap.size → Own (β.put b ⟨w.heap.size,0,vs.length⟩) (H.set b ⟨d,.own⟩) c → Own β H c):=by
 have hblt:b < H.length:=by
  rcases Nat.lt_or_ge b H.length with h | h
  ·exact h
  ·simp [List.getElem?_eq_none h] at hb
 have hle:=Map.put_le (L:=⟨w.heap.size,0,vs.length⟩) hn
 have hold:∀ c,c < w.heap.size → (w.alloc (.cells ⟨vs⟩ t)).heap[c]? = w.heap[c]?:=fun c hc=>RowKit.Below.heap_alloc w _ c hc
 have hnew:(w.alloc (.cells ⟨vs⟩ t)).heap[w.heap.size]? = some (.cells ⟨vs⟩ t (0,0)):=by
  show (w.heap.push _)[w.heap.size]? = _
  simp
 have hsz:(w.alloc (.cells ⟨vs⟩ t)).heap.size = w.heap.size + 1:=by
  show (w.heap.push _).size = _
  simp
 have hget:∀ (x:Nat) k,(H.set b ⟨d,.own⟩)[x]? = some k → (x ≠ b ∧ H[x]? = some k) ∨ (x = b ∧ k = ⟨d,.own⟩):=by
  intro x k hk
  by_cases e:x = b
  ·subst e;rw [List.getElem?_set_self hblt] at hk;injection hk with hk;exact .inr ⟨rfl,hk.symm⟩
  ·rw [List.getElem?_set_ne (Ne.symm e)] at hk;exact .inl ⟨e,hk⟩
 refine ⟨⟨?_,?_,?_,?_,?_⟩,hold,?_⟩
 ·intro x k hk ha
  rcases hget x k hk with ⟨h,hk⟩ | ⟨rfl,rfl⟩
  ·rcases hH.blk x k hk ha with ⟨L,hL,hbr⟩ | ⟨h2,h3⟩
   ·exact .inl ⟨L,hle x L hL,hbr.mono hle (by omega) (Kp.of (hold _ (hbr.lt ha)))⟩
   ·exact .inr ⟨h2,by rw [Map.put_ne h];exact h3⟩
  ·exact .inl ⟨_,Map.put_same ..,rfl,hmi,vs,t,(0,0),hnew,.inl rfl,rfl,hd,hr.mono hle⟩
 ·intro x y k k' L L' hne hk hk' ho ha hL hL'
  rcases hget x k hk with ⟨h,hk1⟩ | ⟨e1,e2⟩
  ·rw [Map.put_ne h] at hL
   rcases hget y k' hk' with ⟨h',hk1'⟩ | ⟨e1',e2'⟩
   ·rw [Map.put_ne h'] at hL'
    exact hH.dis x y k k' L L' hne hk1 hk1' ho ha hL hL'
   ·rw [e1',Map.put_same] at hL';injection hL' with e;subst e
    have:=hH.lt hk1 (own_alive ho) hL
    simp only;omega
  ·rw [e1,Map.put_same] at hL;injection hL with e;subst e
   rcases hget y k' hk' with ⟨h',hk1'⟩ | ⟨e1',e2'⟩
   ·rw [Map.put_ne h'] at hL'
    have:=hH.lt hk1' ha hL'
    simp only;omega
   ·exact absurd (e1.trans e1'.symm) hne
 ·intro x L hL
  rw [List.length_set]
  by_cases e:x = b
  ·omega
  ·rw [Map.put_ne e] at hL;exact hH.dom x L hL
 ·intro g l hg
  obtain ⟨h1,h2⟩:=hH.glob g l hg
  refine ⟨by omega,fun i x hx=>?_⟩
  obtain ⟨v,hv,hv',hmay⟩:=h2 i x hx
  obtain ⟨b0,hb0⟩:=gAt_eq g
  exact ⟨v,by rw [hb0] at hv ⊢;rw [World.cell?_of_block (w:=w) (a:=at' (gIx g) (b0 + i)) (hold _ h1)];exact hv,hv',hmay⟩
 ·intro x k L hk ho hL
  rcases hget x k hk with ⟨h,hk⟩ | ⟨rfl,rfl⟩
  ·rw [Map.put_ne h] at hL;exact hH.apart x k L hk ho hL
  ·rw [Map.put_same] at hL;injection hL with e;subst e
   intro g l hg
   have:=(hH.glob _ l hg).1
   simp only;omega
 ·intro c hc ⟨x,k,L,hk,ho,hL,hLc⟩
  rcases hget x k hk with ⟨h,hk⟩ | ⟨rfl,rfl⟩
  ·rw [Map.put_ne h] at hL;exact ⟨x,k,L,hk,ho,hL,hLc⟩
  ·rw [Map.put_same] at hL;injection hL with e;subst e;simp only at hLc;omega
end
section
variable {C:Cfg} {β:Map} {w:World}
theorem floatE_spec {o:Oper} {ev:Operand → AV} {ρ:Operand → Value} {nm:Nat} {x:AV} {S S':St} (h:floatE C ev o.op nm S = some (x,S')) (hev:∀ x,VRel β (ev x) (ρ x)) :
 ∃ d S1,Pure S S1 ∧ S'.H = lset ⟨d,.own⟩ nm S.H ∧ S'.cond = S1.cond ∧ S'.low = S.low ∧ S'.dec = S1.dec ∧
  (S1.ok → ∃ (vs:List Value) (t:TypeId) (v:World → Value),LRel β d.list vs ∧ (∀ w:World,(execOp ρ o).runQ C.P w = .ok (.value (v w)) (w.alloc (.cells ⟨vs⟩ t))) ∧
   ∀ (w:World) (β':Map),β' nm = some ⟨w.heap.size,0,vs.length⟩ → VRel β' x (v w)):=by
 unfold floatE at h
 split at h
 ·rename_i e ho
  split at h
  case h_2=>cases h
  rename_i z hz
  simp only [Option.some.injEq,Prod.mk.injEq] at h
  obtain ⟨rfl,rfl⟩:=h
  obtain ⟨i,z',hi,hz',hl,e1,e2⟩:=zeroRow_spec hz β
  refine ⟨.gen z,S,Pure.refl _,rfl,rfl,rfl,rfl,fun _=>⟨z'.cells.toList,e,fun w=>.pointer (some (at' w.heap.size 0)),?_,fun w=>?_,fun w β' hb=>?_⟩⟩
  ·exact hl
  ·obtain ⟨dst,op,ty,pos,after,guard⟩:=o
   simp only at ho
   subst ho
   simp [execOp,Instr.alloc,zeroValue,typeInfo,hi,hz',newVar,newRow,at']
  ·exact .ptr _ (.c 0) _ hb
 ·rename_i t l c ho
  split at h
  case h_2=>cases h
  rename_i y S1 hm
  split at h
  case h_2=>cases h
  rename_i b' o' n cap k hk
  simp only [Option.some.injEq,Prod.mk.injEq] at h
  obtain ⟨rfl,rfl⟩:=h
  obtain ⟨S2,d,n',cp,hp,rfl,hx,hh⟩:=makeSliceOp_run hm (hev l) (hev c)
  have hH2:S2.H = []:=hp.H
  simp only [AV.sl,AV.ref.injEq,Ref.sl.injEq] at hx
  obtain ⟨_,rfl,rfl,rfl⟩:=hx
  have hkd:k = ⟨d,.own⟩:=by
   simp only [St.new,hH2,List.nil_append,List.cons.injEq] at hk
   exact hk.1.symm
  subst hkd
  refine ⟨d,{ S with dec:=S2.dec,cond:=S2.cond },⟨rfl,rfl,fun o=>hp.ok o⟩,rfl,rfl,hp.low,rfl,fun ok=>?_⟩
  obtain ⟨vs,e,h1,h2,h3,h4⟩:=hh ok
  refine ⟨vs,e,fun w=>.slice (some (at' w.heap.size 0)) n.v cp.v,h1 β,fun w=>?_,fun w β' hb=>?_⟩
  ·obtain ⟨dst,op,ty,pos,after,guard⟩:=o
   simp only at ho
   subst ho
   simp only [execOp]
   simp [h2 w]
  ·exact .sl _ (.c 0) n (some cp) (some (at' w.heap.size 0)) cp.v h3 (fun C hC=>by injection hC with hC;subst hC;rfl)
    (.inr ⟨_,hb,rfl,by show (0:Nat) + cp.v ≤ vs.length;omega⟩)
 ·rename_i t n ps ho
  split at h
  case h_2=>cases h
  rename_i y S1 hm
  split at h
  case h_2=>cases h
  rename_i b' o' m cap k hk
  simp only [Option.some.injEq,Prod.mk.injEq] at h
  obtain ⟨rfl,rfl⟩:=h
  obtain ⟨r,rs,e,rfl,hx,g2,g3,g4⟩:=buildSliceOp_run (P:=C.P) hm (evP_rel hev ps.toList)
  simp only [AV.ref.injEq,Ref.sl.injEq] at hx
  obtain ⟨_,rfl,rfl,rfl⟩:=hx
  have hkd:k = ⟨.gen r,.own⟩:=by
   simp only [St.new,List.nil_append,List.cons.injEq] at hk
   exact hk.1.symm
  subst hkd
  refine ⟨.gen r,S,Pure.refl _,rfl,rfl,rfl,rfl,fun _=>⟨rs.toList,e,fun w=>.slice (some (at' w.heap.size 0)) n n,g2,fun w=>?_,fun w β' hb=>?_⟩⟩
  ·obtain ⟨dst,op,ty,pos,after,guard⟩:=o
   simp only at ho
   subst ho
   have g4:=g4 w
   have e1:ps.map (fun (x:Nat × Operand)=>(x.1,ρ x.2)) = ⟨ps.toList.map fun p=>(p.1,ρ p.2)⟩:=by apply Array.ext';simp
   simp only [execOp]
   rw [e1]
   simp [g4]
  ·exact .sl _ (.c 0) (.c n) (some (.c n)) (some (at' w.heap.size 0)) n (Nat.le_refl _) (fun C hC=>by injection hC with hC;subst hC;rfl)
    (.inr ⟨_,hb,rfl,by show (0:Nat) + n ≤ rs.toList.length;omega⟩)
 ·cases h
end
end
section
variable [RowAddr] [Co]
open Region
section
variable {C:Cfg} {call:CallF} {nv:Nat} {dyn:Bool} {ops:List Oper}
theorem lowB_H (S:St):(lowB dyn S).H = S.H:=by cases dyn <;> rfl
theorem lowB_ok (S:St):(lowB dyn S).ok ↔ S.ok:=by cases dyn <;> exact Iff.rfl
theorem lowA_H (S S':St):(lowA dyn S S').H = S'.H:=by cases dyn <;> rfl
theorem lowA_ok (S S':St):(lowA dyn S S').ok ↔ S'.ok:=by cases dyn <;> exact Iff.rfl
theorem stepW_inv {nm:Nat} {o:Oper} {F F':Fr} {S S':St} {e:Option Ev} (h:stepW C call nv dyn ops nm o F S = some (F',S',e)) :
 ∃ b S1,guardOk ops (F.ev nv) o.guard S = some (b,S1) ∧ Pure S S1 ∧
  ((b = false ∧ F' = F.put nv o.dst (.obj .tup []) ∧ S' = S1) ∨
   (b = true ∧ isFloat o.op = true ∧ ∃ v,floatE C (F.ev nv) o.op nm S1 = some (v,S') ∧ F' = F.put nv o.dst v) ∨
   (b = true ∧ isFloat o.op = false ∧ ∃ v S2,opE C call (F.ev nv) o.op (lowB dyn S1) = some (v,S2) ∧ S' = lowA dyn S1 S2 ∧ F' = F.put nv o.dst v ∧ e = evOf C.P dyn (F.ev nv) o.op S1 S2)):=by
 unfold stepW at h
 split at h
 ·cases h
 ·rename_i S1 hg
  simp only [Option.some.injEq,Prod.mk.injEq] at h
  obtain ⟨rfl,rfl,rfl⟩:=h
  exact ⟨false,S1,hg,guard_pure hg,.inl ⟨rfl,rfl,rfl⟩⟩
 ·rename_i S1 hg
  split at h
  ·rename_i hf
   split at h
   ·cases h
   rename_i v S2 hv
   simp only [Option.some.injEq,Prod.mk.injEq] at h
   obtain ⟨rfl,rfl,rfl⟩:=h
   exact ⟨true,S1,hg,guard_pure hg,.inr (.inl ⟨rfl,hf,v,hv,rfl⟩)⟩
  ·rename_i hf
   split at h
   ·cases h
   rename_i v S2 hv
   simp only [Option.some.injEq,Prod.mk.injEq] at h
   obtain ⟨rfl,rfl,rfl⟩:=h
   exact ⟨true,S1,hg,guard_pure hg,.inr (.inr ⟨rfl,hf,v,S2,hv,rfl,rfl,rfl⟩)⟩
theorem floatE_H {ev:Operand → AV} {op:Op} {nm:Nat} {x:AV} {S S':St} (h:floatE C ev op nm S = some (x,S')):(∃ k,k.mode = .own ∧ S'.H = lset k nm S.H) ∧ (S'.ok → S.ok):=by
 unfold floatE at h
 split at h
 ·split at h
  ·simp only [Option.some.injEq,Prod.mk.injEq] at h
   obtain ⟨_,rfl⟩:=h
   exact ⟨⟨_,rfl,rfl⟩,id⟩
  ·cases h
 ·split at h
  case h_2=>cases h
  rename_i y S1 hm
  split at h
  case h_2=>cases h
  rename_i b' o' n cap k hk
  simp only [Option.some.injEq,Prod.mk.injEq] at h
  obtain ⟨_,rfl⟩:=h
  have hx:=makeSliceOp_ext hm
  refine ⟨⟨k,?_,rfl⟩,hx.ok⟩
  unfold makeSliceOp at hm
  repeat' (split at hm)
  all_goals (try (cases hm;done))
  simp only [Option.some.injEq,Prod.mk.injEq] at hm;obtain ⟨_,rfl⟩:=hm
  have h1:=B.claim_spec ‹B.claim (N.fits _) _ = some _›
  have h2:=B.claim_spec ‹B.claim (ordered _ _ _) _ = some _›
  have hH:=(h2.1.trans h1.1).H
  simp only [St.new,hH,List.nil_append,List.cons.injEq] at hk
  rw [← hk.1]
 ·split at h
  case h_2=>cases h
  rename_i y S1 hm
  split at h
  case h_2=>cases h
  rename_i b' o' n cap k hk
  simp only [Option.some.injEq,Prod.mk.injEq] at h
  obtain ⟨_,rfl⟩:=h
  have hx:=buildSliceOp_ext hm
  refine ⟨⟨k,?_,rfl⟩,hx.ok⟩
  unfold buildSliceOp at hm
  repeat' (split at hm)
  all_goals (try (cases hm;done))
  simp only [Option.some.injEq,Prod.mk.injEq] at hm;obtain ⟨_,rfl⟩:=hm
  simp only [St.new,List.nil_append,List.cons.injEq] at hk
  rw [← hk.1]
 ·cases h
theorem runW_trace:∀ (r:List Oper) (i nm:Nat) (F F':Fr) (S S':St) (es:List (Nat × Ev)),runW C call nv dyn ops r i nm F S = some (F',S',es) →
 ∃ (tr:Nat → Fr × St) (evs:Nat → Option Ev),tr 0 = (F,S) ∧ tr r.length = (F',S') ∧
  (∀ (k:Nat) o,r[k]? = some o → stepW C call nv dyn ops (nm + floats (r.take k)) o (tr k).1 (tr k).2 = some ((tr (k + 1)).1,(tr (k + 1)).2,evs k)) ∧
  (∀ (k:Nat) e,k < r.length → evs k = some e → (i + k,e) ∈ es) ∧
  ∀ bef,clashes bef es = false → ∀ (k k':Nat) e e',k < k' → k' < r.length → evs k = some e → evs k' = some e' → clash1 bef (i + k) e (i + k') e' = false:=by
 intro r
 induction r with
 | nil=>
  intro i nm F F' S S' es h
  simp only [runW,Option.some.injEq,Prod.mk.injEq] at h
  obtain ⟨rfl,rfl,rfl⟩:=h
  exact ⟨fun _=>(F,S),fun _=>none,rfl,rfl,fun k o ho=>by simp at ho,fun k e hk=>by simp at hk,fun bef _ k k' e e' _ hk=>by simp at hk⟩
 | cons o r ih=>
  intro i nm F F' S S' es h
  simp only [runW] at h
  split at h
  ·cases h
  rename_i F1 S1 e1 hs
  split at h
  ·cases h
  rename_i F2 S2 es2 hr
  simp only [Option.some.injEq,Prod.mk.injEq] at h
  obtain ⟨rfl,rfl,rfl⟩:=h
  obtain ⟨tr,evs,h0,hn,hst,hev,hcl⟩:=ih _ _ _ _ _ _ _ hr
  refine ⟨fun k=>match k with | 0=>(F,S) | k + 1=>tr k,fun k=>match k with | 0=>e1 | k + 1=>evs k,rfl,by simpa using hn,?_,?_,?_⟩
  ·intro k o' ho
   cases k with
   | zero=>
    simp at ho;subst ho
    simp only [List.take_zero,floats,Nat.add_zero,h0]
    exact hs
   | succ k=>
    have:=hst k o' (by simpa using ho)
    have e:nm + floats ((o :: r).take (k + 1)) = nextNm o nm + floats (r.take k):=by
     simp only [List.take_succ_cons,floats,nextNm]
     cases isFloat o.op <;> simp <;> omega
    rw [e];exact this
  ·intro k e hk he
   cases k with
   | zero=>
    simp only at he
    rw [he];simp [consEv]
   | succ k=>
    have:=hev k e (by simpa using hk) he
    have e2:i + (k + 1) = i + 1 + k:=by omega
    rw [e2]
    cases e1 <;> simp [consEv,this]
  ·intro bef hc k k' e e' hkk hk' he he'
   have hc2:clashes bef es2 = false:=by
    cases e1 with
    | none=>exact hc
    | some e1=>
     simp only [consEv,clashes] at hc
     split at hc
     ·cases hc
     ·exact hc
   cases k' with
   | zero=>omega
   | succ k'=>
    have ek':i + (k' + 1) = i + 1 + k':=by omega
    cases k with
    | succ k=>
     have ek:i + (k + 1) = i + 1 + k:=by omega
     rw [ek,ek']
     exact hcl bef hc2 k k' e e' (by omega) (by simpa using hk') he he'
    | zero=>
     simp only at he
     subst he
     simp only [consEv,clashes] at hc
     split at hc
     ·cases hc
     rename_i hcc
     have hm:=hev k' e' (by simpa using hk') he'
     rw [ek']
     have key:∀ (l:List (Nat × Ev)),clash bef i e l = false → ∀ p ∈ l,clash1 bef i e p.1 p.2 = false:=by
      intro l
      induction l with
      | nil=>intro _ p hp;cases hp
      | cons q l ih=>
       obtain ⟨j,e2⟩:=q
       intro hq p hp
       simp only [clash] at hq
       split at hq
       ·cases hq
       rename_i h1
       rcases List.mem_cons.1 hp with rfl | hp
       ·exact h1
       ·exact ih hq p hp
     exact key es2 hcc _ hm
end
structure Tr (C:Cfg) (call:CallF) (nv:Nat) (nt:Nat) (dyn:Bool) (ops:Array Oper) (base:Nat) (tr:Nat → Fr × St) (evs:Nat → Option Ev):Prop where
 reg:regOk C.P nt dyn ops true = true
 ext:CallExt call
 step:∀ (k:Nat) o,ops[k]? = some o → stepW C call nv dyn ops.toList (base + floats (ops.toList.take k)) o (tr k).1 (tr k).2 = some ((tr (k + 1)).1,(tr (k + 1)).2,evs k)
 evs:∀ (k k':Nat) e e',k < k' → k' < ops.size → evs k = some e → evs k' = some e' → clash1 (befOf ops) k e k' e' = false
 pad:∀ b,base ≤ b → b < base + floats ops.toList → lget b (tr 0).2.H = some ⟨.gen [],.dead⟩
 len:(tr 0).2.H.length = base + floats ops.toList
namespace Tr
variable {C:Cfg} {call:CallF} {nv nt:Nat} {dyn:Bool} {ops:Array Oper} {base:Nat} {tr:Nat → Fr × St} {evs:Nat → Option Ev}
def nm (ops:Array Oper) (base k:Nat):Nat:=base + floats (ops.toList.take k)
theorem floats_append (a b:List Oper):floats (a ++ b) = floats a + floats b:=by
 induction a with
 | nil=>simp [floats]
 | cons o a ih=>simp only [List.cons_append,floats];cases isFloat o.op <;> simp [ih] <;> omega
theorem nm_lt {k j:Nat} {o:Oper} (hk:ops[k]? = some o) (hf:isFloat o.op = true) (h:k < j):nm ops base k < nm ops base j:=by
 have hk':ops.toList[k]? = some o:=by simpa using hk
 have e:ops.toList.take j = ops.toList.take (k + 1) ++ (ops.toList.take j).drop (k + 1):=by
  have:=(List.take_append_drop (k + 1) (ops.toList.take j)).symm
  rw [List.take_take,Nat.min_eq_left (by omega)] at this
  exact this
 have e2:ops.toList.take (k + 1) = ops.toList.take k ++ [o]:=by
  rw [List.take_add_one];simp [hk']
 unfold nm
 rw [e,floats_append,e2,floats_append]
 simp only [floats,hf];omega
theorem nm_bound {k:Nat} {o:Oper} (hk:ops[k]? = some o) (hf:isFloat o.op = true):nm ops base k < base + floats ops.toList:=by
 have:=nm_lt (base:=base) hk hf (j:=ops.size + k + 1) (by omega)
 unfold nm at this ⊢
 rw [List.take_of_length_le (i:=ops.size + k + 1) (by simp;omega)] at this
 exact this
theorem nm_ge (k:Nat):base ≤ nm ops base k:=by unfold nm;omega
theorem nm_inj {k j:Nat} {o o':Oper} (hk:ops[k]? = some o) (hf:isFloat o.op = true) (hj:ops[j]? = some o') (hf':isFloat o'.op = true) (h:nm ops base k = nm ops base j):k = j:=by
 rcases Nat.lt_trichotomy k j with h1 | h1 | h1
 ·have:=nm_lt (base:=base) hk hf h1;omega
 ·exact h1
 ·have:=nm_lt (base:=base) hj hf' h1;omega
variable (T:Tr C call nv nt dyn ops base tr evs)
include T
theorem step_kinds {k:Nat} {o:Oper} (ho:ops[k]? = some o) :
 ((tr (k + 1)).2.ok → (tr k).2.ok) ∧
 ((tr (k + 1)).2.H = (tr k).2.H ∨
  (isFloat o.op = true ∧ ∃ b,b.mode = .own ∧ (tr (k + 1)).2.H = lset b (nm ops base k) (tr k).2.H) ∨
  (isFloat o.op = false ∧ isEff o.op = true ∧ ∃ v S1 S2,Pure (tr k).2 S1 ∧ opE C call ((tr k).1.ev nv) o.op (lowB dyn S1) = some (v,S2) ∧ (tr (k + 1)).2.H = S2.H ∧ Ext (lowB dyn S1) S2 ∧ evs k = evOf C.P dyn ((tr k).1.ev nv) o.op S1 S2)):=by
 obtain ⟨b,S1,hg,hp,h | h | h⟩:=stepW_inv (T.step k o ho)
 ·obtain ⟨_,_,h⟩:=h
  rw [h]
  exact ⟨hp.ok,.inl hp.H⟩
 ·obtain ⟨_,hf,v,hv,_⟩:=h
  obtain ⟨⟨kk,h1,h2⟩,h3⟩:=floatE_H hv
  exact ⟨fun o=>hp.ok (h3 o),.inr (.inl ⟨hf,kk,h1,by rw [h2,hp.H];rfl⟩)⟩
 ·obtain ⟨_,hf,v,S2,hv,hS,_,he⟩:=h
  have hx:=opE_ext T.ext hv
  refine ⟨fun o=>hp.ok ((lowB_ok S1).1 (hx.ok ((lowA_ok S1 S2).1 (by rw [← hS];exact o)))),?_⟩
  rcases kinds o.op with hk | hk | hk | hk | hk
  ·left
   have:=(pure_of_re (f:=opE C call ((tr k).1.ev nv) o.op) (fun T cs _ _=>flat_re hk) hv).H
   rw [hS,lowA_H,this,lowB_H,hp.H]
  ·left
   have:=(pure_of_re (f:=opE C call ((tr k).1.ev nv) o.op) (fun T cs e _=>read_re hk (fun b _=>by rw [e])) hv).H
   rw [hS,lowA_H,this,lowB_H,hp.H]
  ·rw [hf] at hk;cases hk
  ·exact .inr (.inr ⟨hf,hk,v,S1,S2,hp,hv,by rw [hS,lowA_H],hx,he⟩)
  ·rw [hk] at hv;cases hv
theorem len_le {k j:Nat} (h:k ≤ j) (hj:j ≤ ops.size):(tr k).2.H.length ≤ (tr j).2.H.length:=by
 induction j with
 | zero=>have:k = 0:=by omega
         subst this;exact Nat.le_refl _
 | succ j ih=>
  rcases Nat.lt_or_ge k (j + 1) with h1 | h1
  ·refine Nat.le_trans (ih (by omega) (by omega)) ?_
   have hlt:j < ops.size:=by omega
   obtain ⟨_,h | ⟨_,b,_,h⟩ | ⟨_,_,v,S1,S2,hp,_,h,hx,_⟩⟩:=T.step_kinds (Array.getElem?_eq_getElem hlt)
   ·rw [h];exact Nat.le_refl _
   ·rw [h,lset_eq,List.length_set];exact Nat.le_refl _
   ·rw [h];have:=hx.len;rw [lowB_H,hp.H] at this;exact this
  ·have:k = j + 1:=by omega
   subst this;exact Nat.le_refl _
theorem ok_le {k j:Nat} (h:k ≤ j) (hj:j ≤ ops.size) (ok:(tr j).2.ok):(tr k).2.ok:=by
 induction j with
 | zero=>have:k = 0:=by omega
         subst this;exact ok
 | succ j ih=>
  rcases Nat.lt_or_ge k (j + 1) with h1 | h1
  ·have hlt:j < ops.size:=by omega
   exact ih (by omega) (by omega) ((T.step_kinds (Array.getElem?_eq_getElem hlt)).1 ok)
  ·have:k = j + 1:=by omega
   subst this;exact ok
theorem early {j:Nat} {o:Oper} (hj:ops[j]? = some o) (hf:isFloat o.op = true):∀ k,k ≤ j → lget (nm ops base j) (tr k).2.H = some ⟨.gen [],.dead⟩:=by
 have hjs:j < ops.size:=(Array.getElem?_eq_some_iff.1 hj).1
 intro k
 induction k with
 | zero=>intro _;exact T.pad _ (nm_ge j) (nm_bound hj hf)
 | succ k ih=>
  intro hk
  have h0:=ih (by omega)
  have hlt:k < ops.size:=by omega
  obtain ⟨_,h | ⟨hfk,b,_,h⟩ | ⟨_,_,v,S1,S2,hp,_,h,hx,_⟩⟩:=T.step_kinds (Array.getElem?_eq_getElem hlt)
  ·rw [h];exact h0
  ·rw [h,lget_lset,if_neg]
   ·exact h0
   ·intro ⟨e,_⟩
    have:=nm_inj (Array.getElem?_eq_getElem hlt) hfk hj hf e
    omega
  ·rw [h];exact hx.dead _ _ (by rw [lowB_H,hp.H];exact h0) rfl
theorem owned {j:Nat} {o:Oper} (hj:ops[j]? = some o) (hf:isFloat o.op = true):∀ k,k ≤ ops.size → ∀ kk,lget (nm ops base j) (tr k).2.H = some kk → kk.mode ≠ .ro:=by
 intro k
 induction k with
 | zero=>
  intro _ kk hkk
  rw [T.pad _ (nm_ge j) (nm_bound hj hf)] at hkk
  injection hkk with hkk;subst hkk;simp
 | succ k ih=>
  intro hk kk hkk hm
  have hlt:k < ops.size:=by omega
  obtain ⟨_,h | ⟨hfk,b,hb,h⟩ | ⟨_,_,v,S1,S2,hp,_,h,hx,_⟩⟩:=T.step_kinds (Array.getElem?_eq_getElem hlt)
  ·rw [h] at hkk;exact ih (by omega) kk hkk hm
  ·rw [h,lget_lset] at hkk
   split at hkk
   ·injection hkk with hkk;subst hkk;rw [hb] at hm;cases hm
   ·exact ih (by omega) kk hkk hm
  ·rw [h] at hkk
   have:=hx.ro _ _ hkk hm
   rw [lowB_H,hp.H] at this
   exact ih (by omega) kk this hm
def Ch (tr:Nat → Fr × St) (b k:Nat):Prop:=lget b (tr (k + 1)).2.H ≠ lget b (tr k).2.H
theorem ch_kind {b k:Nat} {o:Oper} (ho:ops[k]? = some o) (h:Ch tr b k):isEff o.op = true ∨ (isFloat o.op = true ∧ b = nm ops base k):=by
 obtain ⟨_,h1 | ⟨hf,kk,_,h1⟩ | ⟨_,he,_⟩⟩:=T.step_kinds ho
 ·exact absurd (by rw [h1]) h
 ·right
  refine ⟨hf,?_⟩
  unfold Ch at h
  rw [h1,lget_lset] at h
  split at h
  ·rename_i e;exact e.1.symm
  ·exact absurd rfl h
 ·exact .inl he
omit T in
theorem float_not_eff {op:Op} (h:isFloat op = true):isEff op = false:=by cases op <;> simp_all [isFloat,isEff]
theorem ch_ordered {b k k':Nat} {o o':Oper} (hkk:k < k') (ho:ops[k]? = some o) (ho':ops[k']? = some o') (h:Ch tr b k) (h':Ch tr b k'):bef ops k' k:=by
 rcases regOk_pair T.reg hkk ho ho' with h1 | h1
 ·exact h1
 exfalso
 simp only [pairW,Bool.and_eq_true,Bool.not_eq_true',Bool.and_eq_false_iff,Bool.or_eq_false_iff,Bool.or_eq_true] at h1
 obtain ⟨⟨⟨_,h3⟩,h4⟩,_⟩:=h1
 rcases T.ch_kind ho h with a | ⟨a,rfl⟩ <;> rcases T.ch_kind ho' h' with c | ⟨c,e⟩
 ·rcases h3 with h3 | h3 <;> simp_all
 ·subst e
  have e1:=T.early ho' c k (by omega)
  have e2:=T.early ho' c (k + 1) (by omega)
  exact h (by rw [e1,e2])
 ·rcases h4 with h4 | h4
  ·simp_all
  ·simp_all
 ·have:=nm_lt (base:=base) ho a hkk;omega
end Tr
end
end Go.Eng

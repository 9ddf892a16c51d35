/- An interpreter of the model's code over abstract values, proved sound, and a walk in company by it: part of the proof of FnArgon2Long. No condition. -/
import Derived.Test.YtineimjmnbjdlaaDoorZM
import Derived.Test.YtineimjmnbjdlaaDoorRows
import Derived.WalkKit
import Derived.ProofKit
import Derived.OpenShut
import Derived.LaidLaws
import Derived.LaidHandle
import Derived.Handed
import Derived.KernelRfl
set_option linter.unusedVariables false
set_option linter.unusedSectionVars false
set_option linter.unusedSimpArgs false
namespace Go.Proofs.YtineimjmnbjdlaaDoor
section
open Go.Eng
variable [RowAddr] [Co] [SeatCo]
theorem Rows.turn {X:Vec 64} {R:List (List (BitVec 64))} {a:Nat} (H:Rows X R a) (b:Nat) (x m:BitVec 64) (ha:a < 8) (hb:b < 8):Rows (xrS X (128 * a) (128 * b) (oaW x m)) (stC R b (phN x m)) (a + 1):=by
 rw [(oaW_ph x m).1]
 exact H.step b _ ha hb (oaW_ph x m).2
theorem ofm_l {w:Nat} (A:Vec w) (h:A.n = 128):Vec.of ((List.range 128).map fun i=>A.l.getD i 0) = A:=by
 have hl:=A.h
 exact (vec_of A _ (by rw [mr_len,h]) fun i hi=>(gmr (fun i=>A.l.getD i 0) 128 i 0 (by omega)).symm).symm
set_option maxRecDepth 20000 in
theorem adr_pb (pb:Vec 64 → Vec 64 → Vec 64):adr1 pb = pb (Vec.of ((List.range 128).map fun i=>(pb inn1 zz1).l.getD i 0#64)) zz1:=rfl
theorem pbV_n (x y:Vec 64):(pbV x y).n = 128:=mr_len _ _
set_option maxRecDepth 20000 in
theorem zz1_l:zz1.l = Zr:=rfl
set_option maxRecDepth 20000 in
theorem inn1_l:inn1.l = 0#64 :: 0#64 :: 1#64 :: 8#64 :: 1#64 :: 2#64 :: 1#64 :: List.replicate 121 0#64:=rfl
theorem adr_l:(adr1 pbV).l = adrC:=by
 have h:=ofm_l (pbV inn1 zz1) (pbV_n _ _)
 have e:adr1 pbV = pbV (pbV inn1 zz1) zz1:=(adr_pb pbV).trans (congrArg (fun A=>pbV A zz1) h)
 rw [e,pbV_l _ _ (pbV_n _ _) rfl,pbV_l _ _ rfl rfl,zz1_l,inn1_l]
 rfl
theorem turn1 {X:Vec 64} {R:List (List (BitVec 64))} (H:Rows X R 2):Rows (xs1 pbV X) (stC (stC R 1 (phN (adrC.getD 0 0#64) 1#64)) 2 (phN (adrC.getD 1 0#64) 2#64)) 4:=by
 unfold xs1
 rw [adr_l]
 exact (H.turn 1 _ _ (by omega) (by omega)).turn 2 _ _ (by omega) (by omega)
theorem turn2 {X:Vec 64} {R:List (List (BitVec 64))} (H:Rows X R 4):Rows (xs2 X) (stC (stC R 3 (phN (gR R 3 0) 3#64)) 4 (phN (gR (stC R 3 (phN (gR R 3 0) 3#64)) 4 0) 4#64)) 6:=by
 have e:X.l.getD 384 0#64 = gR R 3 0:=H.get 3 0 (by omega) (by omega)
 unfold xs2
 rw [e]
 have h:Rows (xrS X 512 384 (oaW (gR R 3 0) 3#64)) _ 5:=H.turn 3 (gR R 3 0) 3#64 (by omega) (by omega)
 have e':(xrS X 512 384 (oaW (gR R 3 0) 3#64)).l.getD 512 0#64 = _:=h.get 4 0 (by omega) (by omega)
 rw [e']
 exact h.turn 4 _ _ (by omega) (by omega)
theorem turn3 {X:Vec 64} {R:List (List (BitVec 64))} (H:Rows X R 6):Rows (xs3 X) (stC (stC R 5 (phN (gR R 5 0) 5#64)) 6 (phN (gR (stC R 5 (phN (gR R 5 0) 5#64)) 6 0) 6#64)) 8:=by
 have e:X.l.getD 640 0#64 = gR R 5 0:=H.get 5 0 (by omega) (by omega)
 unfold xs3
 rw [e]
 have h:Rows (xrS X 768 640 (oaW (gR R 5 0) 5#64)) _ 7:=H.turn 5 (gR R 5 0) 5#64 (by omega) (by omega)
 have e':(xrS X 768 640 (oaW (gR R 5 0) 5#64)).l.getD 768 0#64 = _:=h.get 6 0 (by omega) (by omega)
 rw [e']
 exact h.turn 6 _ _ (by omega) (by omega)
theorem fill_rows {X:Vec 64} {r0 r1:List (BitVec 64)} (H:Rows X [r0,r1] 2):Rows (fillW X) (allC r0 r1) 8:=turn3 (turn2 (turn1 H))
theorem pick_eq (Y:Vec 64) (k:Nat) (h:k < 128):pick Y (k:Int) = Y.l.getD k 0#64:=gmr (fun j=>Y.l.getD j 0#64) 128 k 0#64 h
theorem put64_get (b:Vec 8) (k:Nat) (x:BitVec 64) (j:Nat) (h:8 * k + 8 ≤ b.n):(put64 b (k:Int) x).l.getD j 0#8 = if 8 * k ≤ j ∧ j < 8 * k + 8 then (x >>> (8 * (j - 8 * k))).setWidth 8 else b.l.getD j 0#8:=by
 unfold put64
 rw [show 0 + ((k:Int) * 8).toNat * 1 = 8 * k by omega]
 have hl:∀ t,t < 8 → 8 * k + t < b.n:=fun t _=>by omega
 rw [set_get,set_get,set_get,set_get,set_get,set_get,set_get,set_get]
 rotate_left
 ·exact hl 0 (by omega)
 ·exact hl 1 (by omega)
 ·exact hl 2 (by omega)
 ·exact hl 3 (by omega)
 ·exact hl 4 (by omega)
 ·exact hl 5 (by omega)
 ·exact hl 6 (by omega)
 ·exact hl 7 (by omega)
 by_cases hj:8 * k ≤ j ∧ j < 8 * k + 8
 ·rw [if_pos hj]
  obtain ⟨t,rfl⟩:∃ t,j = 8 * k + t:=⟨j - 8 * k,by omega⟩
  rw [show 8 * k + t - 8 * k = t by omega]
  by_cases h7:t = 7
  ·subst h7;rw [if_pos rfl]
  rw [if_neg (by omega)]
  by_cases h6:t = 6
  ·subst h6;rw [if_pos rfl]
  rw [if_neg (by omega)]
  by_cases h5:t = 5
  ·subst h5;rw [if_pos rfl]
  rw [if_neg (by omega)]
  by_cases h4:t = 4
  ·subst h4;rw [if_pos rfl]
  rw [if_neg (by omega)]
  by_cases h3:t = 3
  ·subst h3;rw [if_pos rfl]
  rw [if_neg (by omega)]
  by_cases h2:t = 2
  ·subst h2;rw [if_pos rfl]
  rw [if_neg (by omega)]
  by_cases h1:t = 1
  ·subst h1;rw [if_pos rfl]
  rw [if_neg (by omega)]
  obtain rfl:t = 0:=by omega
  rw [if_pos rfl]
  rfl
 ·rw [if_neg hj]
  repeat rw [if_neg (by omega)]
theorem ke_get (X:Vec 64) (b:Vec 8) (Y:Vec 64) (hb:b.n = 1024):∀ k,k ≤ 128 → ∃ B,iter ke_next k ⟨X,b,Y,0⟩ = ⟨X,B,Y,(k:Int)⟩ ∧ B.n = 1024 ∧ ∀ j,j < 8 * k → B.l.getD j 0#8 = (Y.l.getD (j / 8) 0#64 >>> (8 * (j % 8))).setWidth 8
 | 0,_=>⟨b,rfl,hb,fun j hj=>absurd hj (by omega)⟩
 | k + 1,hk=>by
  obtain ⟨B,e,hn,H⟩:=ke_get X b Y hb k (by omega)
  refine ⟨put64 B k (pick Y k),by rw [iter_succ,e];rfl,hn,fun j hj=>?_⟩
  rw [put64_get _ _ _ _ (by omega),pick_eq _ _ (by omega)]
  by_cases h:8 * k ≤ j ∧ j < 8 * k + 8
  ·rw [if_pos h,show j / 8 = k by omega,show j - 8 * k = j % 8 by omega]
  ·rw [if_neg h,H j (by omega)]
set_option maxRecDepth 20000 in
theorem lastV_eq (X:Vec 64):lastV X = Vec.of ((List.range 128).map fun i=>X.l.getD (896 + i) 0#64):=rfl
theorem bytes_row {X:Vec 64} {R:List (List (BitVec 64))} (H:Rows X R 8) (j:Nat) (hj:j < 1024):(bytesV X).l.getD j 0#8 = byR (R.getD 7 Zr) j:=by
 obtain ⟨B,e,hn,hB⟩:=ke_get X Z1024 (lastV X) z1024_n 128 (by omega)
 have eb:bytesV X = B:=by
  show (iter ke_next 128 ⟨X,Z1024,lastV X,0⟩).b = B
  rw [e]
 have el:∀ l:List (BitVec 64),(Vec.of l).l = l:=fun _=>rfl
 rw [eb,hB j (by omega),lastV_eq,el,gmr _ _ _ _ (by omega:j / 8 < 128),H.get 7 (j / 8) (by omega) (by omega)]
 rfl
theorem key_first {X:Vec 64} {R:List (List (BitVec 64))} (H:Rows X R 8):(keyV X).l.getD 0 0#8 = byF (finF (hI 4) (lstP (R.getD 7 Zr)) 1028) 0:=by
 have hw:=bytesV_n X
 have hz:Z4.n = 4:=rfl
 unfold keyV hashV
 rw [if_pos (by omega),sumV_get _ _ _ _ _ (by omega) (by omega) (by omega) (by omega),if_pos (by omega),first_eq _ _ _ _ _ (by omega) (by omega)]
 have e:finF (hI 4) (P0 4 (bytesV X) 0) (4 + 1024) = finF (hI 4) (lstP (R.getD 7 Zr)) 1028:=finF_congr _ _ fun i hi=>by
  unfold P0 lstP
  split
  ·rfl
  ·rw [Nat.zero_add,bytes_row H _ (by omega)]
 exact congrArg (fun f=>byF f 0) e
theorem keyV_first (h:Vec 8):(keyV (fillW (startV h))).l.getD 0 0#8 = keyC (finF (hI 64) (P0 1024 (hw0 h) 0) (4 + 72)) (finF (hI 64) (P0 1024 (hw1 h) 0) (4 + 72)):=key_first (fill_rows (startV_rows h))
theorem vec_l {w:Nat} {v:Vec w} {l:List (BitVec w)} (h:v.l = l):v = Vec.of l:=by rw [← h,of_l]
theorem keys_apart:KeysApart:=by
 have a:(keyOf (Vec.of [1#8]) Z8 0 1 0 8).l.getD 0 0#8 = 117#8:=by
  show (keyV (fillW (startV (row72 (bvN (Vec.of [1#8]) Z8 0 1 0 8 1#32 8#32 1#32 4#32 2))))).l.getD 0 0#8 = _
  rw [vec_l st0a,keyV_first,← keyZ_eq,st1a]
 have b:(keyOf (Vec.of [2#8]) Z8 0 1 0 8).l.getD 0 0#8 = 183#8:=by
  show (keyV (fillW (startV (row72 (bvN (Vec.of [2#8]) Z8 0 1 0 8 1#32 8#32 1#32 4#32 2))))).l.getD 0 0#8 = _
  rw [vec_l st0b,keyV_first,← keyZ_eq,st1b]
 unfold KeysApart
 rw [a,b]
 decide
end
section
open Go.ChangeShapes Go.WideShapes Go.RowKit
open Go.Eng
def rowsP:List (List Int):=[[0,2,4,6,1,3,5,7,8,10,12,14,9,11,13,15],[14,4,9,13,10,8,15,6,1,0,11,5,12,2,7,3],[11,12,5,15,8,0,2,13,10,3,7,9,14,6,1,4],[7,3,13,11,9,1,12,14,2,5,4,15,6,10,0,8],[9,5,2,10,0,7,4,15,14,11,6,3,1,12,8,13],[2,6,0,8,12,10,11,3,4,7,15,1,13,5,14,9],[12,1,14,4,5,15,13,10,0,6,9,8,7,3,2,11],[13,7,12,3,11,14,1,9,5,15,8,2,0,4,6,10],[6,14,11,0,15,9,3,8,12,13,1,10,2,7,4,5],[10,8,7,1,2,4,6,5,15,9,3,13,11,14,12,0],[0,2,4,6,1,3,5,7,8,10,12,14,9,11,13,15],[14,4,9,13,10,8,15,6,1,0,11,5,12,2,7,3]]
def rowV:List Int:=[7640891576956012808,13503953896175478587,4354685564936845355,11912009170470909681,5840696475078001361,11170449401992604703,2270897969802886507,6620516959819538809]
theorem tabP_eq:tabP = rowsP.flatten.map fun z=>AV.num (.int .u8 (.c z)):=by kernel_rfl
theorem tabIv_eq:tabIv = rowV.map fun z=>AV.num (.int .u64 (.c z)):=by kernel_rfl
theorem laidP:(Rows.laid_pub_wardkeep_pub_crypto_blake2b_precomputed:DataW Unit) = .agg (rowsP.map fun r=>.agg (r.map fun z=>.lit (.int .u8 z))):=by kernel_rfl
theorem laidIv:(Rows.laid_pub_wardkeep_pub_crypto_blake2b_iv:DataW Unit) = .agg (rowV.map fun z=>.lit (.int .u64 z)):=by kernel_rfl
theorem gl1:Tryd.prog.globalNamed "pub-wardkeep/pub/crypto/blake2b.precomputed" = some 1:=by kernel_rfl
theorem gl4:Tryd.prog.globalNamed "pub-wardkeep/pub/crypto/blake2b.iv" = some 4:=by kernel_rfl
theorem ty1:(Tryd.prog.globals[1]?).map (·.type) = some 78:=by kernel_rfl
theorem ty4:(Tryd.prog.globals[4]?).map (·.type) = some 89:=by kernel_rfl
theorem c_5:Tryd.prog.cellsOf 5 = 1:=by kernel_rfl
theorem c_77:Tryd.prog.cellsOf 77 = 16:=by kernel_rfl
theorem c_78:Tryd.prog.cellsOf 78 = 192:=by kernel_rfl
theorem c_74:Tryd.prog.cellsOf 74 = 1:=by kernel_rfl
theorem c_89:Tryd.prog.cellsOf 89 = 8:=by kernel_rfl
theorem arr_cells {P:Program} {W:World} {t e n fuel:Nat} {k:IntKind} {cs:List Value} {l:List Int} {p:List MemPlace} (ht:P.underlying t = some (.array n e)) (he:P.underlying e = some (.int k)) (hc:P.cellsOf e = 1) (hct:P.cellsOf t = n) (hn:l.length = n)
 (h:DataW.trod (fun _=>()) P W 0 (fun _=>true) false fuel t cs = some (.agg (l.map fun z=>.lit (.int k z)),p)):cs = l.map fun z=>.int k z:=by
 obtain ⟨xs,m,_,hx,hl,hxl,hel⟩:=DataW.trod_array ht h
 have hx1:l.map (fun z=>(DataW.lit (.int k z):DataW Unit)) = xs.map (·.1):=by
  have:=congrArg Prod.fst hx
  simpa using this
 refine List.ext_getElem? fun i=>?_
 rcases Nat.lt_or_ge i n with hi | hi
 ·have hE:=hel i hi
  rw [hc,Nat.mul_one,List.getElem?_eq_getElem (by omega)] at hE
  obtain ⟨z,e1,e2,e3⟩:=DataW.trod_int he hE
  have e0:cs[i]? = some (.int k z):=by
   have e0:((cs.drop i).take 1)[0]? = some (.int k z):=by rw [e1];rfl
   simpa using e0
  have hz:(l.map (fun z=>(DataW.lit (.int k z):DataW Unit)))[i]? = some (.lit (.int k z)):=by
   rw [hx1,List.getElem?_map,List.getElem?_eq_getElem (by omega),e2];rfl
  rw [e0,List.getElem?_map]
  rw [List.getElem?_map] at hz
  cases hli:l[i]? with
  | none=>rw [hli] at hz;cases hz
  | some y=>
   rw [hli] at hz
   simp only [Option.map_some,Option.some.injEq,DataW.lit.injEq,Lit.int.injEq,true_and] at hz
   subst hz;rfl
 ·rw [List.getElem?_eq_none (by omega),List.getElem?_eq_none (by rw [List.length_map];omega)]
theorem flat_eq {α:Type} (m:Nat):∀ (rows:List (List α)) (cs:List α),cs.length = m * rows.length → (∀ (i:Nat) r,rows[i]? = some r → (cs.drop (i * m)).take m = r) → cs = rows.flatten
 | [],cs,hl,_=>by
  have:cs.length = 0:=by simpa using hl
  simpa using this
 | r :: rs,cs,hl,h=>by
  have h0:cs.take m = r:=by simpa using h 0 r rfl
  have hl':cs.length = m * rs.length + m:=by rw [hl,List.length_cons,Nat.mul_succ]
  have e:=flat_eq m rs (cs.drop m) (by rw [List.length_drop];omega) fun i x hx=>by
   rw [List.drop_drop,show m + i * m = (i + 1) * m by rw [Nat.succ_mul];omega]
   exact h (i + 1) x (by simpa using hx)
  rw [List.flatten_cons,← h0,← e,List.take_append_drop]
theorem arr2_cells {P:Program} {W:World} {t s e m n fuel:Nat} {k:IntKind} {cs:List Value} {rows:List (List Int)} {p:List MemPlace} (ht:P.underlying t = some (.array m s)) (hs:P.underlying s = some (.array n e)) (he:P.underlying e = some (.int k)) (hc:P.cellsOf e = 1) (hcs:P.cellsOf s = n) (hct:P.cellsOf t = n * m) (hn:rows.length = m) (hr:∀ r ∈ rows,r.length = n)
 (h:DataW.trod (fun _=>()) P W 0 (fun _=>true) false fuel t cs = some (.agg (rows.map fun r=>.agg (r.map fun z=>.lit (.int k z))),p)):cs = (rows.flatten).map fun z=>.int k z:=by
 obtain ⟨xs,f',_,hx,hl,hxl,hel⟩:=DataW.trod_array ht h
 have hx1:(rows.map fun r=>(DataW.agg (r.map fun z=>DataW.lit (.int k z)):DataW Unit)) = xs.map (·.1):=by
  have:=congrArg Prod.fst hx
  simpa using this
 have e:=flat_eq n (rows.map fun r=>r.map fun z=>Value.int k z) cs (by rw [List.length_map,hn];omega) fun i r hi=>by
  rw [List.getElem?_map,Option.map_eq_some_iff] at hi
  obtain ⟨r0,hr0,rfl⟩:=hi
  have hil:i < rows.length:=(List.getElem?_eq_some_iff.1 hr0).1
  have hE:=hel i (by omega)
  rw [hcs] at hE
  have hz:xs[i]?.map (·.1) = some (.agg (r0.map fun z=>.lit (.int k z))):=by
   rw [← List.getElem?_map,← hx1,List.getElem?_map,hr0];rfl
  have hxi:i < xs.length:=by omega
  rw [List.getElem?_eq_getElem hxi,Option.map_some] at hz
  have hz:=Option.some.inj hz
  have hE':DataW.trod (fun _=>()) P W 0 (fun _=>true) false f' s ((cs.drop (i * n)).take n) = some (.agg (r0.map fun z=>.lit (.int k z)),(xs[i]).2):=by
   rw [← hz,hE,List.getElem?_eq_getElem hxi]
  exact arr_cells hs he hc hcs (hr r0 (List.mem_of_getElem? hr0)) hE'
 rw [e,List.map_flatten]
def GReads (W:World) (g:Nat) (k:IntKind) (l:List Int):Prop:=g < W.heap.size ∧ ∀ (i:Nat) z,l[i]? = some z → W.cell? (at' g i) = some (.int k z)
theorem greads_of {W:World} {name:String} {g:Nat} {k:IntKind} {l:List Int} {cs:Array Value} (hg:Tryd.prog.globalNamed name = some g) (hv:W.var? Tryd.prog name = some cs) (hcs:cs.toList = l.map fun z=>.int k z):GReads W g k l:=by
 have hcell:=World.var?_cell hg hv
 have hcl:∀ i:Nat,cs[i]? = (l.map fun z=>Value.int k z)[i]?:=fun i=>by rw [← hcs,Array.getElem?_toList]
 refine ⟨?_,fun i z hz=>?_⟩
 ·simp only [World.var?,hg,Option.bind_some] at hv
  split at hv
  ·rename_i c t f hh
   exact (Array.getElem?_eq_some_iff.1 hh).1
  ·cases hv
 ·show W.cell? ⟨g,i,none⟩ = _
  rw [hcell i,hcl i,List.getElem?_map,hz];rfl
abbrev laidR:List (String × DataW Unit):=Rows.fnArgon2LongRow.laid
theorem vars_ok {W:World} (h:laidMetH Tryd.prog laidR W):GReads W 1 .u8 rowsP.flatten ∧ GReads W 4 .u64 rowV:=by
 have h':laidMet Tryd.prog [("pub-wardkeep/pub/crypto/blake2b.errKeySize",Rows.laid_pub_wardkeep_pub_crypto_blake2b_errKeySize),("pub-wardkeep/pub/crypto/blake2b.errHashSize",Rows.laid_pub_wardkeep_pub_crypto_blake2b_errHashSize),("pub-wardkeep/pub/crypto/blake2b.iv",Rows.laid_pub_wardkeep_pub_crypto_blake2b_iv),("pub-wardkeep/pub/crypto/blake2b.precomputed",Rows.laid_pub_wardkeep_pub_crypto_blake2b_precomputed)] W:=h
 obtain ⟨ps,h,_⟩:=h'
 obtain ⟨g2,t2,c2,f2,p2,q2,a2,b2,v2,d2,h,_⟩:=h
 obtain ⟨g3,t3,c3,f3,p3,q3,a3,b3,v3,d3,h,_⟩:=h
 obtain ⟨g4,t4,c4,f4,p4,q4,a4,b4,v4,d4,h,_⟩:=h
 obtain ⟨g1,t1,c1,f1,p1,q1,a1,b1,v1,d1,h,_⟩:=h
 obtain rfl:=Option.some.inj (gl1.symm.trans a1)
 obtain rfl:=Option.some.inj (gl4.symm.trans a4)
 obtain rfl:=Option.some.inj (ty1.symm.trans b1)
 obtain rfl:=Option.some.inj (ty4.symm.trans b4)
 rw [laidP] at d1
 rw [laidIv] at d4
 exact ⟨greads_of gl1 v1 (arr2_cells Tryd.underlying78 Tryd.underlying77 Tryd.underlying5 c_5 c_77 c_78 (by kernel_rfl) (by decide) d1),greads_of gl4 v4 (arr_cells Tryd.underlying89 Tryd.underlying74 c_74 c_89 (by kernel_rfl) d4)⟩
theorem greads_key [RowAddr] {W:World} {g:Nat} {k:IntKind} {l:List Int} (h:GReads W g k l):gIx (2 * g) < W.heap.size ∧ ∀ (i:Nat) x,(l.map fun z=>AV.num (.int k (.c z)))[i]? = some x → ∃ v,W.cell? (gAt (2 * g) i) = some v ∧ VRel (fun _=>none) x v:=by
 obtain ⟨h1,h2⟩:=h
 refine ⟨by rw [gIx_var];exact h1,fun i x hx=>?_⟩
 rw [List.getElem?_map,Option.map_eq_some_iff] at hx
 obtain ⟨z,hz,rfl⟩:=hx
 exact ⟨.int k z,by rw [gAt_var];exact h2 i z hz,.num (.int k (.c z))⟩
theorem glob_ok [RowAddr] {W:World} (h:laidMetH Tryd.prog laidR W):∀ g l,noGlob g = some l → gIx g < W.heap.size ∧ ∀ (i:Nat) x,l[i]? = some x → ∃ v,W.cell? (gAt g i) = some v ∧ VRel (fun _=>none) x v:=by
 obtain ⟨h1,h4⟩:=vars_ok h
 intro g l hg
 unfold noGlob at hg
 split at hg
 ·injection hg with hg;subst hg;rw [tabP_eq];exact greads_key h1
 ·injection hg with hg;subst hg;rw [tabIv_eq];exact greads_key h4
 ·cases hg
noncomputable def low:Nat:=(World.holding Tryd.prog default ⟨#[],#[],[]⟩).heap.size
abbrev sHash:ByteArray:={ data:=#[98,108,97,107,101,50,98,58,32,105,110,118,97,108,105,100,32,104,97,115,104,32,115,105,122,101] }
abbrev sKey:ByteArray:={ data:=#[98,108,97,107,101,50,98,58,32,105,110,118,97,108,105,100,32,107,101,121,32,115,105,122,101] }
noncomputable def laidWorld (os:Os):World:=
 let w0:=World.holding Tryd.prog os ⟨#[.cells #[.string sHash] 170,.cells #[.string sKey] 170],#[],[]⟩
 { w0 with heap:=((((w0.heap).modify 1 (fun o=>match o with | .cells _ t f=>.cells (rowsP.flatten.map fun z=>Value.int .u8 z).toArray t f | o=>o)).modify 2 (fun o=>match o with | .cells _ t f=>.cells #[.iface 148 (.pointer (some ⟨low,0,none⟩))] t f | o=>o)).modify 3 (fun o=>match o with | .cells _ t f=>.cells #[.iface 148 (.pointer (some ⟨low + 1,0,none⟩))] t f | o=>o)).modify 4 (fun o=>match o with | .cells _ t f=>.cells (rowV.map fun z=>Value.int .u64 z).toArray t f | o=>o) }
set_option maxRecDepth 100000 in
theorem laidWorld_met (os:Os) (args:Array Value):laidMetH Tryd.prog laidR ((laidWorld os).forCall (fun _ _=>0) ⟨#[],args,[]⟩).memory:=
 laidMetH_of_parts (laidMet_of_run' 8 (by kernel_rfl) (by kernel_rfl)) (by kernel_rfl)
end
section
open Go.Eng
variable [RowAddr] [Co] [SeatCo]
def specs3:FuncId → Option Eng.Spec
 | 6=>some c6.spec
 | 7=>some spEqual
 | 8=>some c8.spec
 | 9=>some c9.spec
 | 10=>some c10.spec
 | _=>none
theorem specs3_ok (h6:SpecOk Tryd.prog noGlob 6 c6.spec):∀ f sp,specs3 f = some sp → SpecOk Tryd.prog noGlob f sp:=by
 intro f sp h
 unfold specs3 at h
 split at h
 ·injection h with h;subst h;exact h6
 ·injection h with h;subst h;exact okEqual
 ·injection h with h;subst h;exact c8_ok
 ·injection h with h;subst h;exact c9_ok
 ·injection h with h;subst h;exact c10_ok
 ·cases h
end
section
open Go.Eng
variable [RowAddr] [Co] [SeatCo]
theorem lawA (l:Vec 8) (N:Int):verdict (goB specs3 noLoop 3 [.num (.int .i64 (.s N)),.ref (.sl 0 (.c 0) (.s l.n) none)] ⟨[⟨.b8 l,.ro⟩],big,[true],[]⟩) = some (true,[(decide ((2147483647:Int) < ((l.n:Nat):Int)) == true)]):=by kernel_rfl
theorem lawB (l:Vec 8) (N:Int):verdict (goB specs3 noLoop 3 [.num (.int .i64 (.s N)),.ref (.sl 0 (.c 0) (.s l.n) none)] ⟨[⟨.b8 l,.ro⟩],big,[false,true,true,true],[]⟩) = some (true,[true,(decide (N < 1) == true),(decide (N < 1) == true),(decide (N < 1) == true),(decide ((2147483647:Int) < ((l.n:Nat):Int)) == false)]):=by kernel_rfl
theorem lawC (l:Vec 8) (N:Int):verdict (goB specs3 noLoop 3 [.num (.int .i64 (.s N)),.ref (.sl 0 (.c 0) (.s l.n) none)] ⟨[⟨.b8 l,.ro⟩],big,[false,false,false,false,true,true,true,true,true],[]⟩) = some (true,[true,(decide ((4096:Int) < N) == true),(decide ((4096:Int) < N) == true),(decide ((4096:Int) < N) == true),(decide ((4096:Int) < N) == true),(decide ((4096:Int) < N) == true),(decide (N < 1) == false),(decide (N < 1) == false),(decide (N < 1) == false),(decide ((2147483647:Int) < ((l.n:Nat):Int)) == false)]):=by kernel_rfl
theorem lawD (l:Vec 8) (N:Int):verdict (goB specs3 noLoop 3 [.num (.int .i64 (.s N)),.ref (.sl 0 (.c 0) (.s l.n) none)] ⟨[⟨.b8 l,.ro⟩],big,[false,false,false,false,false,false,false,true,false,false],[]⟩) = some (true,[true,(decide ((4096:Int) < N) == false),(decide ((4096:Int) < N) == false),(decide ((65536:Int) < ((l.n:Nat):Int)) == true),(decide ((4096:Int) < N) == false),(decide ((4096:Int) < N) == false),(decide ((4096:Int) < N) == false),(decide (N < 1) == false),(decide (N < 1) == false),(decide (N < 1) == false),(decide ((2147483647:Int) < ((l.n:Nat):Int)) == false)]):=by kernel_rfl
theorem lawE (l:Vec 8) (N:Int):verdict (goB specs3 noLoop 3 [.num (.int .i64 (.s N)),.ref (.sl 0 (.c 0) (.s l.n) none)] ⟨[⟨.b8 l,.ro⟩],big,[false,false,false,false,false,false,false,false,false,false],[]⟩) = some (true,[true,(eqCond (hashV (Vec.zero 8 ((N):Int).toNat) l 0 ((N):Int).toNat ((N):Int).toNat 0 l.n) (longS l 0 l.n N) 0 0 ((N):Int).toNat (longK l 0 l.n N)),decide (((1:Int) ≤ N ∧ (N ≤ 100000 ∧ ((0 + l.n) ≤ l.n ∧ l.n ≤ 1000000)))),true,decide (((1:Int) ≤ N ∧ (N ≤ 100000 ∧ ((0 + l.n) ≤ l.n ∧ l.n ≤ 1000000)))),(decide ((4096:Int) < N) == false),(decide ((4096:Int) < N) == false),(decide ((65536:Int) < ((l.n:Nat):Int)) == false),(decide ((4096:Int) < N) == false),(decide ((4096:Int) < N) == false),(decide ((4096:Int) < N) == false),(decide (N < 1) == false),(decide (N < 1) == false),(decide (N < 1) == false),(decide ((2147483647:Int) < ((l.n:Nat):Int)) == false)]):=by kernel_rfl
end
section
open Go.Eng
variable [RowAddr] [Co] [SeatCo]
theorem longK_eq (v:Vec 8) (o np:Nat) (N:Int) (h1:1 ≤ N) (h2:N ≤ 100000):longK v o np N = N.toNat:=by
 unfold longK
 by_cases h:N ≤ 64
 ·rw [if_pos h];exact (zO_n _ _ _ _ h1).2
 ·rw [if_neg h]
  have:=(z9_ends v o np N (by omega) (by omega)).2.2.1
  omega
theorem longS_n (v:Vec 8) (o np:Nat) (N:Int) (h1:1 ≤ N) (h2:N ≤ 100000):(longS v o np N).n = N.toNat:=by
 unfold longS
 by_cases h:N ≤ 64
 ·rw [if_pos h];exact (zO_n _ _ _ _ h1).1
 ·rw [if_neg h]
  obtain ⟨y1,y2,y3,y4⟩:=z9_ends v o np N (by omega) (by omega)
  show (M9.u _).n + _ = _
  rw [← y1]
  have e:((M9.w (z9 v (fst9 v o np N) (4 + np) N)).sub 0 (M9.kw (z9 v (fst9 v o np N) (4 + np) N))).n = M9.kw (z9 v (fst9 v o np N) (4 + np) N):=rfl
  rw [e]
  omega
theorem hashV_n (v w:Vec 8) (o np cp oi ni:Nat):(hashV v w o np cp oi ni).n = v.n:=by
 unfold hashV
 split
 ·rfl
 ·have L:=(l_inv v w o np cp oi ni ((np - 32 - 33) / 32)).q3
  split
  ·exact L
  ·exact L
theorem law3 (l:Vec 8) (N:Int):∃ dec cs,verdict (goB specs3 noLoop 3 [.num (.int .i64 (.s N)),.ref (.sl 0 (.c 0) (.s l.n) none)] ⟨[⟨.b8 l,.ro⟩],big,dec,[]⟩) = some (true,cs) ∧ ∀ x ∈ cs,x = true:=by
 by_cases h1:(2147483647:Int) < ((l.n:Nat):Int)
 ·refine ⟨_,_,lawA l N,?_⟩
  repeat' (refine all_true_cons ?_ ?_)
  all_goals first | exact all_true_nil | (simp only [beq_iff_eq,beq_true,decide_eq_true_eq];omega)
 by_cases h2:N < 1
 ·refine ⟨_,_,lawB l N,?_⟩
  repeat' (refine all_true_cons ?_ ?_)
  all_goals first | exact all_true_nil | (simp only [beq_iff_eq,beq_true,beq_false,Bool.not_eq_true',decide_eq_true_eq,decide_eq_false_iff_not] <;> omega)
 by_cases h3:4096 < N
 ·refine ⟨_,_,lawC l N,?_⟩
  repeat' (refine all_true_cons ?_ ?_)
  all_goals first | exact all_true_nil | (simp only [beq_iff_eq,beq_true,beq_false,Bool.not_eq_true',decide_eq_true_eq,decide_eq_false_iff_not] <;> omega)
 by_cases h4:(65536:Int) < ((l.n:Nat):Int)
 ·refine ⟨_,_,lawD l N,?_⟩
  repeat' (refine all_true_cons ?_ ?_)
  all_goals first | exact all_true_nil | (simp only [beq_iff_eq,beq_true,beq_false,Bool.not_eq_true',decide_eq_true_eq,decide_eq_false_iff_not] <;> omega)
 ·refine ⟨_,_,lawE l N,?_⟩
  have hN:((N.toNat:Nat):Int) = N:=by omega
  have heq:eqCond (hashV (Vec.zero 8 N.toNat) l 0 N.toNat N.toNat 0 l.n) (longS l 0 l.n N) 0 0 N.toNat (longK l 0 l.n N) = true:=by
   have hb:=hash_bytes (Vec.zero 8 N.toNat) l 0 N.toNat N.toNat 0 l.n (by omega) (by omega) (Nat.le_refl _) (by show 0 + N.toNat ≤ N.toNat;omega) (by omega) (by omega)
   rw [hN] at hb
   unfold eqCond
   have e1:(Vec.zero 8 N.toNat).n = N.toNat:=rfl
   rw [longK_eq _ _ _ _ (by omega) (by omega)]
   refine decide_eq_true ⟨rfl,by rw [hashV_n,e1];omega,by rw [longS_n _ _ _ _ (by omega) (by omega)];omega,by omega,fun j hj=>?_⟩
   rw [hb j hj,Nat.zero_add]
  repeat' (refine all_true_cons ?_ ?_)
  all_goals first | exact all_true_nil | exact heq | (simp only [beq_iff_eq,beq_true,beq_false,Bool.not_eq_true',decide_eq_true_eq,decide_eq_false_iff_not] <;> omega)
end
end Go.Proofs.YtineimjmnbjdlaaDoor

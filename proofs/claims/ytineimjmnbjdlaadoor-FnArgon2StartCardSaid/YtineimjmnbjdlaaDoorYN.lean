/- FnArgon2Start: of all modes, bytes and costs: the package's first hash is the reference's, and readArgon says true. No condition but that the tables of package blake2b hold what the program's text lays in them, which the card ties. -/
import Derived.Test.YtineimjmnbjdlaaDoorYM
import Derived.Test.YtineimjmnbjdlaaDoorRows
import Derived.WalkKit
import Derived.ProofKit
import Derived.OpenShut
import Derived.LaidLaws
import Derived.LaidHandle
import Derived.Handed
import Derived.KernelRfl
import Derived.Test.YtineimjmnbjdlaaDoorCards
import Derived.Test.YtineimjmnbjdlaaDoorTie
import Derived.SevenTiedAt
import Derived.Conc.Holds
import Derived.Conc.LeavingOf
set_option linter.unusedVariables false
set_option linter.unusedSectionVars false
set_option linter.unusedSimpArgs false
namespace Go.Proofs.YtineimjmnbjdlaaDoor
section
open Go.Eng
variable [RowAddr] [Co] [SeatCo]
theorem Rows.turn {X:Vec 64} {R:List (List (BitVec 64))} {a:Nat} (H:Rows X R a) (b:Nat) (x m:BitVec 64) (ha:a < 8) (hb:b < 8):Rows (xrS X (128 * a) (128 * b) (oaW x m)) (stC R b (phN x m)) (a + 1):=by
 rw [(oaW_ph x m).1]
 exact H.step b _ ha hb (oaW_ph x m).2
theorem ofm_l {w:Nat} (A:Vec w) (h:A.n = 128):Vec.of ((List.range 128).map fun i=>A.l.getD i 0) = A:=by
 have hl:=A.h
 exact (vec_of A _ (by rw [mr_len,h]) fun i hi=>(gmr (fun i=>A.l.getD i 0) 128 i 0 (by omega)).symm).symm
set_option maxRecDepth 20000 in
theorem adr_pb (pb:Vec 64 → Vec 64 → Vec 64):adr1 pb = pb (Vec.of ((List.range 128).map fun i=>(pb inn1 zz1).l.getD i 0#64)) zz1:=rfl
theorem pbV_n (x y:Vec 64):(pbV x y).n = 128:=mr_len _ _
set_option maxRecDepth 20000 in
theorem zz1_l:zz1.l = Zr:=rfl
set_option maxRecDepth 20000 in
theorem inn1_l:inn1.l = 0#64 :: 0#64 :: 1#64 :: 8#64 :: 1#64 :: 2#64 :: 1#64 :: List.replicate 121 0#64:=rfl
theorem adr_l:(adr1 pbV).l = adrC:=by
 have h:=ofm_l (pbV inn1 zz1) (pbV_n _ _)
 have e:adr1 pbV = pbV (pbV inn1 zz1) zz1:=(adr_pb pbV).trans (congrArg (fun A=>pbV A zz1) h)
 rw [e,pbV_l _ _ (pbV_n _ _) rfl,pbV_l _ _ rfl rfl,zz1_l,inn1_l]
 rfl
theorem turn1 {X:Vec 64} {R:List (List (BitVec 64))} (H:Rows X R 2):Rows (xs1 pbV X) (stC (stC R 1 (phN (adrC.getD 0 0#64) 1#64)) 2 (phN (adrC.getD 1 0#64) 2#64)) 4:=by
 unfold xs1
 rw [adr_l]
 exact (H.turn 1 _ _ (by omega) (by omega)).turn 2 _ _ (by omega) (by omega)
theorem turn2 {X:Vec 64} {R:List (List (BitVec 64))} (H:Rows X R 4):Rows (xs2 X) (stC (stC R 3 (phN (gR R 3 0) 3#64)) 4 (phN (gR (stC R 3 (phN (gR R 3 0) 3#64)) 4 0) 4#64)) 6:=by
 have e:X.l.getD 384 0#64 = gR R 3 0:=H.get 3 0 (by omega) (by omega)
 unfold xs2
 rw [e]
 have h:Rows (xrS X 512 384 (oaW (gR R 3 0) 3#64)) _ 5:=H.turn 3 (gR R 3 0) 3#64 (by omega) (by omega)
 have e':(xrS X 512 384 (oaW (gR R 3 0) 3#64)).l.getD 512 0#64 = _:=h.get 4 0 (by omega) (by omega)
 rw [e']
 exact h.turn 4 _ _ (by omega) (by omega)
theorem turn3 {X:Vec 64} {R:List (List (BitVec 64))} (H:Rows X R 6):Rows (xs3 X) (stC (stC R 5 (phN (gR R 5 0) 5#64)) 6 (phN (gR (stC R 5 (phN (gR R 5 0) 5#64)) 6 0) 6#64)) 8:=by
 have e:X.l.getD 640 0#64 = gR R 5 0:=H.get 5 0 (by omega) (by omega)
 unfold xs3
 rw [e]
 have h:Rows (xrS X 768 640 (oaW (gR R 5 0) 5#64)) _ 7:=H.turn 5 (gR R 5 0) 5#64 (by omega) (by omega)
 have e':(xrS X 768 640 (oaW (gR R 5 0) 5#64)).l.getD 768 0#64 = _:=h.get 6 0 (by omega) (by omega)
 rw [e']
 exact h.turn 6 _ _ (by omega) (by omega)
theorem fill_rows {X:Vec 64} {r0 r1:List (BitVec 64)} (H:Rows X [r0,r1] 2):Rows (fillW X) (allC r0 r1) 8:=turn3 (turn2 (turn1 H))
theorem pick_eq (Y:Vec 64) (k:Nat) (h:k < 128):pick Y (k:Int) = Y.l.getD k 0#64:=gmr (fun j=>Y.l.getD j 0#64) 128 k 0#64 h
theorem put64_get (b:Vec 8) (k:Nat) (x:BitVec 64) (j:Nat) (h:8 * k + 8 ≤ b.n):(put64 b (k:Int) x).l.getD j 0#8 = if 8 * k ≤ j ∧ j < 8 * k + 8 then (x >>> (8 * (j - 8 * k))).setWidth 8 else b.l.getD j 0#8:=by
 unfold put64
 rw [show 0 + ((k:Int) * 8).toNat * 1 = 8 * k by omega]
 have hl:∀ t,t < 8 → 8 * k + t < b.n:=fun t _=>by omega
 rw [set_get,set_get,set_get,set_get,set_get,set_get,set_get,set_get]
 rotate_left
 ·exact hl 0 (by omega)
 ·exact hl 1 (by omega)
 ·exact hl 2 (by omega)
 ·exact hl 3 (by omega)
 ·exact hl 4 (by omega)
 ·exact hl 5 (by omega)
 ·exact hl 6 (by omega)
 ·exact hl 7 (by omega)
 by_cases hj:8 * k ≤ j ∧ j < 8 * k + 8
 ·rw [if_pos hj]
  obtain ⟨t,rfl⟩:∃ t,j = 8 * k + t:=⟨j - 8 * k,by omega⟩
  rw [show 8 * k + t - 8 * k = t by omega]
  by_cases h7:t = 7
  ·subst h7;rw [if_pos rfl]
  rw [if_neg (by omega)]
  by_cases h6:t = 6
  ·subst h6;rw [if_pos rfl]
  rw [if_neg (by omega)]
  by_cases h5:t = 5
  ·subst h5;rw [if_pos rfl]
  rw [if_neg (by omega)]
  by_cases h4:t = 4
  ·subst h4;rw [if_pos rfl]
  rw [if_neg (by omega)]
  by_cases h3:t = 3
  ·subst h3;rw [if_pos rfl]
  rw [if_neg (by omega)]
  by_cases h2:t = 2
  ·subst h2;rw [if_pos rfl]
  rw [if_neg (by omega)]
  by_cases h1:t = 1
  ·subst h1;rw [if_pos rfl]
  rw [if_neg (by omega)]
  obtain rfl:t = 0:=by omega
  rw [if_pos rfl]
  rfl
 ·rw [if_neg hj]
  repeat rw [if_neg (by omega)]
theorem ke_get (X:Vec 64) (b:Vec 8) (Y:Vec 64) (hb:b.n = 1024):∀ k,k ≤ 128 → ∃ B,iter ke_next k ⟨X,b,Y,0⟩ = ⟨X,B,Y,(k:Int)⟩ ∧ B.n = 1024 ∧ ∀ j,j < 8 * k → B.l.getD j 0#8 = (Y.l.getD (j / 8) 0#64 >>> (8 * (j % 8))).setWidth 8
 | 0,_=>⟨b,rfl,hb,fun j hj=>absurd hj (by omega)⟩
 | k + 1,hk=>by
  obtain ⟨B,e,hn,H⟩:=ke_get X b Y hb k (by omega)
  refine ⟨put64 B k (pick Y k),by rw [iter_succ,e];rfl,hn,fun j hj=>?_⟩
  rw [put64_get _ _ _ _ (by omega),pick_eq _ _ (by omega)]
  by_cases h:8 * k ≤ j ∧ j < 8 * k + 8
  ·rw [if_pos h,show j / 8 = k by omega,show j - 8 * k = j % 8 by omega]
  ·rw [if_neg h,H j (by omega)]
set_option maxRecDepth 20000 in
theorem lastV_eq (X:Vec 64):lastV X = Vec.of ((List.range 128).map fun i=>X.l.getD (896 + i) 0#64):=rfl
theorem bytes_row {X:Vec 64} {R:List (List (BitVec 64))} (H:Rows X R 8) (j:Nat) (hj:j < 1024):(bytesV X).l.getD j 0#8 = byR (R.getD 7 Zr) j:=by
 obtain ⟨B,e,hn,hB⟩:=ke_get X Z1024 (lastV X) z1024_n 128 (by omega)
 have eb:bytesV X = B:=by
  show (iter ke_next 128 ⟨X,Z1024,lastV X,0⟩).b = B
  rw [e]
 have el:∀ l:List (BitVec 64),(Vec.of l).l = l:=fun _=>rfl
 rw [eb,hB j (by omega),lastV_eq,el,gmr _ _ _ _ (by omega:j / 8 < 128),H.get 7 (j / 8) (by omega) (by omega)]
 rfl
theorem key_first {X:Vec 64} {R:List (List (BitVec 64))} (H:Rows X R 8):(keyV X).l.getD 0 0#8 = byF (finF (hI 4) (lstP (R.getD 7 Zr)) 1028) 0:=by
 have hw:=bytesV_n X
 have hz:Z4.n = 4:=rfl
 unfold keyV hashV
 rw [if_pos (by omega),sumV_get _ _ _ _ _ (by omega) (by omega) (by omega) (by omega),if_pos (by omega),first_eq _ _ _ _ _ (by omega) (by omega)]
 have e:finF (hI 4) (P0 4 (bytesV X) 0) (4 + 1024) = finF (hI 4) (lstP (R.getD 7 Zr)) 1028:=finF_congr _ _ fun i hi=>by
  unfold P0 lstP
  split
  ·rfl
  ·rw [Nat.zero_add,bytes_row H _ (by omega)]
 exact congrArg (fun f=>byF f 0) e
theorem keyV_first (h:Vec 8):(keyV (fillW (startV h))).l.getD 0 0#8 = keyC (finF (hI 64) (P0 1024 (hw0 h) 0) (4 + 72)) (finF (hI 64) (P0 1024 (hw1 h) 0) (4 + 72)):=key_first (fill_rows (startV_rows h))
theorem vec_l {w:Nat} {v:Vec w} {l:List (BitVec w)} (h:v.l = l):v = Vec.of l:=by rw [← h,of_l]
theorem keys_apart:KeysApart:=by
 have a:(keyOf (Vec.of [1#8]) Z8 0 1 0 8).l.getD 0 0#8 = 117#8:=by
  show (keyV (fillW (startV (row72 (bvN (Vec.of [1#8]) Z8 0 1 0 8 1#32 8#32 1#32 4#32 2))))).l.getD 0 0#8 = _
  rw [vec_l st0a,keyV_first,← keyZ_eq,st1a]
 have b:(keyOf (Vec.of [2#8]) Z8 0 1 0 8).l.getD 0 0#8 = 183#8:=by
  show (keyV (fillW (startV (row72 (bvN (Vec.of [2#8]) Z8 0 1 0 8 1#32 8#32 1#32 4#32 2))))).l.getD 0 0#8 = _
  rw [vec_l st0b,keyV_first,← keyZ_eq,st1b]
 unfold KeysApart
 rw [a,b]
 decide
end
section
open Go.ChangeShapes Go.WideShapes Go.RowKit
open Go.Eng
def rowsP:List (List Int):=[[0,2,4,6,1,3,5,7,8,10,12,14,9,11,13,15],[14,4,9,13,10,8,15,6,1,0,11,5,12,2,7,3],[11,12,5,15,8,0,2,13,10,3,7,9,14,6,1,4],[7,3,13,11,9,1,12,14,2,5,4,15,6,10,0,8],[9,5,2,10,0,7,4,15,14,11,6,3,1,12,8,13],[2,6,0,8,12,10,11,3,4,7,15,1,13,5,14,9],[12,1,14,4,5,15,13,10,0,6,9,8,7,3,2,11],[13,7,12,3,11,14,1,9,5,15,8,2,0,4,6,10],[6,14,11,0,15,9,3,8,12,13,1,10,2,7,4,5],[10,8,7,1,2,4,6,5,15,9,3,13,11,14,12,0],[0,2,4,6,1,3,5,7,8,10,12,14,9,11,13,15],[14,4,9,13,10,8,15,6,1,0,11,5,12,2,7,3]]
def rowV:List Int:=[7640891576956012808,13503953896175478587,4354685564936845355,11912009170470909681,5840696475078001361,11170449401992604703,2270897969802886507,6620516959819538809]
theorem tabP_eq:tabP = rowsP.flatten.map fun z=>AV.num (.int .u8 (.c z)):=by kernel_rfl
theorem tabIv_eq:tabIv = rowV.map fun z=>AV.num (.int .u64 (.c z)):=by kernel_rfl
theorem laidP:(Rows.laid_pub_wardkeep_pub_crypto_blake2b_precomputed:DataW Unit) = .agg (rowsP.map fun r=>.agg (r.map fun z=>.lit (.int .u8 z))):=by kernel_rfl
theorem laidIv:(Rows.laid_pub_wardkeep_pub_crypto_blake2b_iv:DataW Unit) = .agg (rowV.map fun z=>.lit (.int .u64 z)):=by kernel_rfl
theorem gl1:Tryd.prog.globalNamed "pub-wardkeep/pub/crypto/blake2b.precomputed" = some 1:=by kernel_rfl
theorem gl4:Tryd.prog.globalNamed "pub-wardkeep/pub/crypto/blake2b.iv" = some 4:=by kernel_rfl
theorem ty1:(Tryd.prog.globals[1]?).map (·.type) = some 78:=by kernel_rfl
theorem ty4:(Tryd.prog.globals[4]?).map (·.type) = some 89:=by kernel_rfl
theorem c_5:Tryd.prog.cellsOf 5 = 1:=by kernel_rfl
theorem c_77:Tryd.prog.cellsOf 77 = 16:=by kernel_rfl
theorem c_78:Tryd.prog.cellsOf 78 = 192:=by kernel_rfl
theorem c_74:Tryd.prog.cellsOf 74 = 1:=by kernel_rfl
theorem c_89:Tryd.prog.cellsOf 89 = 8:=by kernel_rfl
theorem arr_cells {P:Program} {W:World} {t e n fuel:Nat} {k:IntKind} {cs:List Value} {l:List Int} {p:List MemPlace} (ht:P.underlying t = some (.array n e)) (he:P.underlying e = some (.int k)) (hc:P.cellsOf e = 1) (hct:P.cellsOf t = n) (hn:l.length = n)
 (h:DataW.trod (fun _=>()) P W 0 (fun _=>true) false fuel t cs = some (.agg (l.map fun z=>.lit (.int k z)),p)):cs = l.map fun z=>.int k z:=by
 obtain ⟨xs,m,_,hx,hl,hxl,hel⟩:=DataW.trod_array ht h
 have hx1:l.map (fun z=>(DataW.lit (.int k z):DataW Unit)) = xs.map (·.1):=by
  have:=congrArg Prod.fst hx
  simpa using this
 refine List.ext_getElem? fun i=>?_
 rcases Nat.lt_or_ge i n with hi | hi
 ·have hE:=hel i hi
  rw [hc,Nat.mul_one,List.getElem?_eq_getElem (by omega)] at hE
  obtain ⟨z,e1,e2,e3⟩:=DataW.trod_int he hE
  have e0:cs[i]? = some (.int k z):=by
   have e0:((cs.drop i).take 1)[0]? = some (.int k z):=by rw [e1];rfl
   simpa using e0
  have hz:(l.map (fun z=>(DataW.lit (.int k z):DataW Unit)))[i]? = some (.lit (.int k z)):=by
   rw [hx1,List.getElem?_map,List.getElem?_eq_getElem (by omega),e2];rfl
  rw [e0,List.getElem?_map]
  rw [List.getElem?_map] at hz
  cases hli:l[i]? with
  | none=>rw [hli] at hz;cases hz
  | some y=>
   rw [hli] at hz
   simp only [Option.map_some,Option.some.injEq,DataW.lit.injEq,Lit.int.injEq,true_and] at hz
   subst hz;rfl
 ·rw [List.getElem?_eq_none (by omega),List.getElem?_eq_none (by rw [List.length_map];omega)]
theorem flat_eq {α:Type} (m:Nat):∀ (rows:List (List α)) (cs:List α),cs.length = m * rows.length → (∀ (i:Nat) r,rows[i]? = some r → (cs.drop (i * m)).take m = r) → cs = rows.flatten
 | [],cs,hl,_=>by
  have:cs.length = 0:=by simpa using hl
  simpa using this
 | r :: rs,cs,hl,h=>by
  have h0:cs.take m = r:=by simpa using h 0 r rfl
  have hl':cs.length = m * rs.length + m:=by rw [hl,List.length_cons,Nat.mul_succ]
  have e:=flat_eq m rs (cs.drop m) (by rw [List.length_drop];omega) fun i x hx=>by
   rw [List.drop_drop,show m + i * m = (i + 1) * m by rw [Nat.succ_mul];omega]
   exact h (i + 1) x (by simpa using hx)
  rw [List.flatten_cons,← h0,← e,List.take_append_drop]
theorem arr2_cells {P:Program} {W:World} {t s e m n fuel:Nat} {k:IntKind} {cs:List Value} {rows:List (List Int)} {p:List MemPlace} (ht:P.underlying t = some (.array m s)) (hs:P.underlying s = some (.array n e)) (he:P.underlying e = some (.int k)) (hc:P.cellsOf e = 1) (hcs:P.cellsOf s = n) (hct:P.cellsOf t = n * m) (hn:rows.length = m) (hr:∀ r ∈ rows,r.length = n)
 (h:DataW.trod (fun _=>()) P W 0 (fun _=>true) false fuel t cs = some (.agg (rows.map fun r=>.agg (r.map fun z=>.lit (.int k z))),p)):cs = (rows.flatten).map fun z=>.int k z:=by
 obtain ⟨xs,f',_,hx,hl,hxl,hel⟩:=DataW.trod_array ht h
 have hx1:(rows.map fun r=>(DataW.agg (r.map fun z=>DataW.lit (.int k z)):DataW Unit)) = xs.map (·.1):=by
  have:=congrArg Prod.fst hx
  simpa using this
 have e:=flat_eq n (rows.map fun r=>r.map fun z=>Value.int k z) cs (by rw [List.length_map,hn];omega) fun i r hi=>by
  rw [List.getElem?_map,Option.map_eq_some_iff] at hi
  obtain ⟨r0,hr0,rfl⟩:=hi
  have hil:i < rows.length:=(List.getElem?_eq_some_iff.1 hr0).1
  have hE:=hel i (by omega)
  rw [hcs] at hE
  have hz:xs[i]?.map (·.1) = some (.agg (r0.map fun z=>.lit (.int k z))):=by
   rw [← List.getElem?_map,← hx1,List.getElem?_map,hr0];rfl
  have hxi:i < xs.length:=by omega
  rw [List.getElem?_eq_getElem hxi,Option.map_some] at hz
  have hz:=Option.some.inj hz
  have hE':DataW.trod (fun _=>()) P W 0 (fun _=>true) false f' s ((cs.drop (i * n)).take n) = some (.agg (r0.map fun z=>.lit (.int k z)),(xs[i]).2):=by
   rw [← hz,hE,List.getElem?_eq_getElem hxi]
  exact arr_cells hs he hc hcs (hr r0 (List.mem_of_getElem? hr0)) hE'
 rw [e,List.map_flatten]
def GReads (W:World) (g:Nat) (k:IntKind) (l:List Int):Prop:=g < W.heap.size ∧ ∀ (i:Nat) z,l[i]? = some z → W.cell? (at' g i) = some (.int k z)
theorem greads_of {W:World} {name:String} {g:Nat} {k:IntKind} {l:List Int} {cs:Array Value} (hg:Tryd.prog.globalNamed name = some g) (hv:W.var? Tryd.prog name = some cs) (hcs:cs.toList = l.map fun z=>.int k z):GReads W g k l:=by
 have hcell:=World.var?_cell hg hv
 have hcl:∀ i:Nat,cs[i]? = (l.map fun z=>Value.int k z)[i]?:=fun i=>by rw [← hcs,Array.getElem?_toList]
 refine ⟨?_,fun i z hz=>?_⟩
 ·simp only [World.var?,hg,Option.bind_some] at hv
  split at hv
  ·rename_i c t f hh
   exact (Array.getElem?_eq_some_iff.1 hh).1
  ·cases hv
 ·show W.cell? ⟨g,i,none⟩ = _
  rw [hcell i,hcl i,List.getElem?_map,hz];rfl
abbrev laidR:List (String × DataW Unit):=Rows.fnArgon2LongRow.laid
theorem vars_ok {W:World} (h:laidMetH Tryd.prog laidR W):GReads W 1 .u8 rowsP.flatten ∧ GReads W 4 .u64 rowV:=by
 have h':laidMet Tryd.prog [("pub-wardkeep/pub/crypto/blake2b.errKeySize",Rows.laid_pub_wardkeep_pub_crypto_blake2b_errKeySize),("pub-wardkeep/pub/crypto/blake2b.errHashSize",Rows.laid_pub_wardkeep_pub_crypto_blake2b_errHashSize),("pub-wardkeep/pub/crypto/blake2b.iv",Rows.laid_pub_wardkeep_pub_crypto_blake2b_iv),("pub-wardkeep/pub/crypto/blake2b.precomputed",Rows.laid_pub_wardkeep_pub_crypto_blake2b_precomputed)] W:=h
 obtain ⟨ps,h,_⟩:=h'
 obtain ⟨g2,t2,c2,f2,p2,q2,a2,b2,v2,d2,h,_⟩:=h
 obtain ⟨g3,t3,c3,f3,p3,q3,a3,b3,v3,d3,h,_⟩:=h
 obtain ⟨g4,t4,c4,f4,p4,q4,a4,b4,v4,d4,h,_⟩:=h
 obtain ⟨g1,t1,c1,f1,p1,q1,a1,b1,v1,d1,h,_⟩:=h
 obtain rfl:=Option.some.inj (gl1.symm.trans a1)
 obtain rfl:=Option.some.inj (gl4.symm.trans a4)
 obtain rfl:=Option.some.inj (ty1.symm.trans b1)
 obtain rfl:=Option.some.inj (ty4.symm.trans b4)
 rw [laidP] at d1
 rw [laidIv] at d4
 exact ⟨greads_of gl1 v1 (arr2_cells Tryd.underlying78 Tryd.underlying77 Tryd.underlying5 c_5 c_77 c_78 (by kernel_rfl) (by decide) d1),greads_of gl4 v4 (arr_cells Tryd.underlying89 Tryd.underlying74 c_74 c_89 (by kernel_rfl) d4)⟩
theorem greads_key [RowAddr] {W:World} {g:Nat} {k:IntKind} {l:List Int} (h:GReads W g k l):gIx (2 * g) < W.heap.size ∧ ∀ (i:Nat) x,(l.map fun z=>AV.num (.int k (.c z)))[i]? = some x → ∃ v,W.cell? (gAt (2 * g) i) = some v ∧ VRel (fun _=>none) x v:=by
 obtain ⟨h1,h2⟩:=h
 refine ⟨by rw [gIx_var];exact h1,fun i x hx=>?_⟩
 rw [List.getElem?_map,Option.map_eq_some_iff] at hx
 obtain ⟨z,hz,rfl⟩:=hx
 exact ⟨.int k z,by rw [gAt_var];exact h2 i z hz,.num (.int k (.c z))⟩
theorem glob_ok [RowAddr] {W:World} (h:laidMetH Tryd.prog laidR W):∀ g l,noGlob g = some l → gIx g < W.heap.size ∧ ∀ (i:Nat) x,l[i]? = some x → ∃ v,W.cell? (gAt g i) = some v ∧ VRel (fun _=>none) x v:=by
 obtain ⟨h1,h4⟩:=vars_ok h
 intro g l hg
 unfold noGlob at hg
 split at hg
 ·injection hg with hg;subst hg;rw [tabP_eq];exact greads_key h1
 ·injection hg with hg;subst hg;rw [tabIv_eq];exact greads_key h4
 ·cases hg
noncomputable def low:Nat:=(World.holding Tryd.prog default ⟨#[],#[],[]⟩).heap.size
abbrev sHash:ByteArray:={ data:=#[98,108,97,107,101,50,98,58,32,105,110,118,97,108,105,100,32,104,97,115,104,32,115,105,122,101] }
abbrev sKey:ByteArray:={ data:=#[98,108,97,107,101,50,98,58,32,105,110,118,97,108,105,100,32,107,101,121,32,115,105,122,101] }
noncomputable def laidWorld (os:Os):World:=
 let w0:=World.holding Tryd.prog os ⟨#[.cells #[.string sHash] 170,.cells #[.string sKey] 170],#[],[]⟩
 { w0 with heap:=((((w0.heap).modify 1 (fun o=>match o with | .cells _ t f=>.cells (rowsP.flatten.map fun z=>Value.int .u8 z).toArray t f | o=>o)).modify 2 (fun o=>match o with | .cells _ t f=>.cells #[.iface 148 (.pointer (some ⟨low,0,none⟩))] t f | o=>o)).modify 3 (fun o=>match o with | .cells _ t f=>.cells #[.iface 148 (.pointer (some ⟨low + 1,0,none⟩))] t f | o=>o)).modify 4 (fun o=>match o with | .cells _ t f=>.cells (rowV.map fun z=>Value.int .u64 z).toArray t f | o=>o) }
set_option maxRecDepth 100000 in
theorem laidWorld_met (os:Os) (args:Array Value):laidMetH Tryd.prog laidR ((laidWorld os).forCall (fun _ _=>0) ⟨#[],args,[]⟩).memory:=
 laidMetH_of_parts (laidMet_of_run' 8 (by kernel_rfl) (by kernel_rfl)) (by kernel_rfl)
end
section
open Go.Eng
variable [RowAddr] [Co] [SeatCo]
def par28 (t m:BitVec 32) (p k mo:Int) (n:Nat):Vec 8:=Vec.of [((BitVec.ofInt 32 p) >>> 0).setWidth 8,((BitVec.ofInt 32 p) >>> 8).setWidth 8,((BitVec.ofInt 32 p) >>> 16).setWidth 8,((BitVec.ofInt 32 p) >>> 24).setWidth 8,((BitVec.ofInt 32 k) >>> 0).setWidth 8,((BitVec.ofInt 32 k) >>> 8).setWidth 8,((BitVec.ofInt 32 k) >>> 16).setWidth 8,((BitVec.ofInt 32 k) >>> 24).setWidth 8,(m >>> 0).setWidth 8,(m >>> 8).setWidth 8,(m >>> 16).setWidth 8,(m >>> 24).setWidth 8,(t >>> 0).setWidth 8,(t >>> 8).setWidth 8,(t >>> 16).setWidth 8,(t >>> 24).setWidth 8,19#8,0#8,0#8,0#8,((BitVec.ofInt 32 mo) >>> 0).setWidth 8,((BitVec.ofInt 32 mo) >>> 8).setWidth 8,((BitVec.ofInt 32 mo) >>> 16).setWidth 8,((BitVec.ofInt 32 mo) >>> 24).setWidth 8,((BitVec.ofInt 32 ((n:Nat):Int)) >>> 0).setWidth 8,((BitVec.ofInt 32 ((n:Nat):Int)) >>> 8).setWidth 8,((BitVec.ofInt 32 ((n:Nat):Int)) >>> 16).setWidth 8,((BitVec.ofInt 32 ((n:Nat):Int)) >>> 24).setWidth 8]
def addC (x:Vec 8) (v:Vec 8) (o n:Nat):Vec 8:=(x.app (len4 n)).app (v.sub o n)
def begC (a b c e:Vec 8) (oa na ob nb oc nc oe ne:Nat) (t m:BitVec 32) (p k mo:Int):Vec 8:=addC (addC (addC ((par28 t m p k mo na).app (a.sub oa na)) b ob nb) c oc nc) e oe ne
def begK (na nb nc ne:Nat):Nat:=28 + na + 4 + nb + 4 + nc + 4 + ne
structure c21D where
 a:Vec 8
 b:Vec 8
 c:Vec 8
 e:Vec 8
 oa:Nat
 na:Nat
 ob:Nat
 nb:Nat
 oc:Nat
 nc:Nat
 oe:Nat
 ne:Nat
 t:BitVec 32
 m:BitVec 32
 p:Int
 k:Int
 mo:Int
def c21_rd (a:List AV) (K:List Blk):Option c21D:=
 match a with
 | [(.num (.int .i64 (.s mo))),(.ref (.sl 0 (.s oa) (.s na) none)),(.ref (.sl 1 (.s ob) (.s nb) none)),(.ref (.sl 2 (.s oc) (.s nc) none)),(.ref (.sl 3 (.s oe) (.s ne) none)),(.num (.w32 t)),(.num (.w32 m)),(.num (.int .i64 (.s p))),(.num (.int .i64 (.s k))),(.agg cs_sigL)]=>
  match K with
  | [⟨(.b8 a),.ro⟩,⟨(.b8 b),.ro⟩,⟨(.b8 c),.ro⟩,⟨(.b8 e),.ro⟩]=>
   (match eqC cs_sigL sigL with
   | true=>some ⟨a,b,c,e,oa,na,ob,nb,oc,nc,oe,ne,t,m,p,k,mo⟩
   | false=>none)
  | _=>none
 | _=>none
def c21:Ct c21D where
 pat:=[(.int .i64 (.s 0)),(.sl 0 (.s 0) (.s 0) none),(.sl 1 (.s 0) (.s 0) none),(.sl 2 (.s 0) (.s 0) none),(.sl 3 (.s 0) (.s 0) none),(.w32 0#32),(.w32 0#32),(.int .i64 (.s 0)),(.int .i64 (.s 0)),(.agg (mkC sigL))]
 patH:=[⟨(.b8 (Vec.zero 8 0)),.ro⟩,⟨(.b8 (Vec.zero 8 0)),.ro⟩,⟨(.b8 (Vec.zero 8 0)),.ro⟩,⟨(.b8 (Vec.zero 8 0)),.ro⟩]
 read:=c21_rd
 args:=fun ⟨_,_,_,_,oa,na,ob,nb,oc,nc,oe,ne,t,m,p,k,mo⟩=>[(.int .i64 (.s mo)),(.sl 0 (.s oa) (.s na) none),(.sl 1 (.s ob) (.s nb) none),(.sl 2 (.s oc) (.s nc) none),(.sl 3 (.s oe) (.s ne) none),(.w32 t),(.w32 m),(.int .i64 (.s p)),(.int .i64 (.s k)),(.agg (mkC sigL))]
 heap:=fun ⟨a,b,c,e,_,_,_,_,_,_,_,_,_,_,_,_,_⟩=>[⟨(.b8 a),.ro⟩,⟨(.b8 b),.ro⟩,⟨(.b8 c),.ro⟩,⟨(.b8 e),.ro⟩]
 out:=fun ⟨a,b,c,e,oa,na,ob,nb,oc,nc,oe,ne,t,m,p,k,mo⟩=>[⟨(.b8 a),.ro⟩,⟨(.b8 b),.ro⟩,⟨(.b8 c),.ro⟩,⟨(.b8 e),.ro⟩,⟨(.b8 ((zO (begC a b c e oa na ob nb oc nc oe ne t m p k mo) 0 (begK na nb nc ne) 64)).u),.own⟩]
 val:=fun ⟨a,b,c,e,oa,na,ob,nb,oc,nc,oe,ne,t,m,p,k,mo⟩=>(.sl 4 (.c 0) (.s ((zO (begC a b c e oa na ob nb oc nc oe ne t m p k mo) 0 (begK na nb nc ne) 64)).k) none)
 good:=fun ⟨a,b,c,e,oa,na,ob,nb,oc,nc,oe,ne,_,_,_,_,_⟩=>decide (oa + na ≤ a.n ∧ na ≤ 1000000 ∧ ob + nb ≤ b.n ∧ nb ≤ 1000000 ∧ oc + nc ≤ c.n ∧ nc ≤ 1000000 ∧ oe + ne ≤ e.n ∧ ne ≤ 1000000)
theorem c21_run (a b c e:Vec 8) (oa na ob nb oc nc oe ne:Nat) (t m:BitVec 32) (p k mo:Int):endsAs (c21.heap ⟨a,b,c,e,oa,na,ob,nb,oc,nc,oe,ne,t,m,p,k,mo⟩).length (some [0,1,2,3,31]) (c21.out ⟨a,b,c,e,oa,na,ob,nb,oc,nc,oe,ne,t,m,p,k,mo⟩) (c21.val ⟨a,b,c,e,oa,na,ob,nb,oc,nc,oe,ne,t,m,p,k,mo⟩) (goB specs9 noLoop 21 (c21.args ⟨a,b,c,e,oa,na,ob,nb,oc,nc,oe,ne,t,m,p,k,mo⟩) ⟨c21.heap ⟨a,b,c,e,oa,na,ob,nb,oc,nc,oe,ne,t,m,p,k,mo⟩,big,[],[]⟩) = some ((c21.out ⟨a,b,c,e,oa,na,ob,nb,oc,nc,oe,ne,t,m,p,k,mo⟩),(c21.val ⟨a,b,c,e,oa,na,ob,nb,oc,nc,oe,ne,t,m,p,k,mo⟩),[decide (((1:Int) ≤ 64 ∧ ((64:Int) ≤ 64 ∧ ((0 + (((((((28 + na) + 4) + nb) + 4) + nc) + 4) + ne)) ≤ (((((((28 + na) + 4) + nb) + 4) + nc) + 4) + ne) ∧ (((((((28 + na) + 4) + nb) + 4) + nc) + 4) + ne) ≤ 1099511627776)))),(true && (((((((28 + na) + 4) + nb) + 4) + nc) + 4) == ((((((28 + na) + 4) + nb) + 4) + nc) + 4))),decide (((((((((28 + na) + 4) + nb) + 4) + nc) + 4) + ne) * 1) ≤ 1099511627776),decide ((oe + ne) ≤ e.n),(true && ((((((28 + na) + 4) + nb) + 4) + nc) == (((((28 + na) + 4) + nb) + 4) + nc))),decide ((((((((28 + na) + 4) + nb) + 4) + nc) + 4) * 1) ≤ 1099511627776),decide (True),(true && (((((28 + na) + 4) + nb) + 4) == ((((28 + na) + 4) + nb) + 4))),decide (((((((28 + na) + 4) + nb) + 4) + nc) * 1) ≤ 1099511627776),decide ((oc + nc) ≤ c.n),(true && ((((28 + na) + 4) + nb) == (((28 + na) + 4) + nb))),decide ((((((28 + na) + 4) + nb) + 4) * 1) ≤ 1099511627776),decide (True),(true && (((28 + na) + 4) == ((28 + na) + 4))),decide (((((28 + na) + 4) + nb) * 1) ≤ 1099511627776),decide ((ob + nb) ≤ b.n),(true && ((28 + na) == (28 + na))),decide ((((28 + na) + 4) * 1) ≤ 1099511627776),decide (True),decide (((28 + na) * 1) ≤ 1099511627776),decide ((oa + na) ≤ a.n),decide (True),decide (True),decide (True),decide (True),decide (True),decide (True),decide (True)]):=by kernel_rfl
set_option maxRecDepth 100000 in
theorem c21_read (a:List AV) (K:List Blk) (d:c21D) (h:c21.read a K = some d):a = c21.args d ∧ K = c21.heap d:=by
 replace h:c21_rd a K = some d:=h
 unfold c21_rd at h
 split at h
 case h_2=>cases h
 split at h
 case h_2=>cases h
 split at h
 case h_2=>cases h
 rename_i hc
 obtain rfl:=eqC_eq hc
 injection h with h;subst h
 exact ⟨rfl,rfl⟩
theorem c21_ok:SpecOk Tryd.prog noGlob 21 c21.spec:=by
 refine c21.ok (goB_ok specs9_ok (no_loops _)) c21_read ?_
 rintro ⟨a,b,c,e,oa,na,ob,nb,oc,nc,oe,ne,t,m,p,k,mo⟩ hg
 have hg:oa + na ≤ a.n ∧ na ≤ 1000000 ∧ ob + nb ≤ b.n ∧ nb ≤ 1000000 ∧ oc + nc ≤ c.n ∧ nc ≤ 1000000 ∧ oe + ne ≤ e.n ∧ ne ≤ 1000000:=of_decide_eq_true hg
 refine ⟨[],(some [0,1,2,3,31]),_,c21_run a b c e oa na ob nb oc nc oe ne t m p k mo,?_⟩
 repeat' (refine all_true_cons ?_ ?_)
 all_goals first | exact all_true_nil | rfl | (simp only [bq] <;> omega)
end
section
open Go.Eng
variable [RowAddr] [Co] [SeatCo]
def specs14:FuncId → Option Eng.Spec
 | 21=>some c21.spec
 | _=>none
theorem specs14_ok:∀ f sp,specs14 f = some sp → SpecOk Tryd.prog noGlob f sp:=by
 intro f sp h
 unfold specs14 at h
 split at h
 ·injection h with h;subst h;exact c21_ok
 ·cases h
def begO (x:Vec 8) (k:Nat):Vec 8:=Z72.over 0 (x.sub 0 (Nat.min k 72))
def begS (a b c e:Vec 8) (oa na ob nb oc nc oe ne:Nat) (t m:BitVec 32) (p k mo:Int):Vec 8:=begO (zO (begC a b c e oa na ob nb oc nc oe ne t m p k mo) 0 (begK na nb nc ne) 64).u (zO (begC a b c e oa na ob nb oc nc oe ne t m p k mo) 0 (begK na nb nc ne) 64).k
def specs20:FuncId → Option Eng.Spec
 | 29=>some c29.spec
 | _=>none
theorem specs20_ok:∀ f sp,specs20 f = some sp → SpecOk Tryd.prog noGlob f sp:=by
 intro f sp h
 unfold specs20 at h
 split at h
 ·injection h with h;subst h;exact c29_ok
 ·cases h
structure c20D where
 a:Vec 8
 b:Vec 8
 c:Vec 8
 e:Vec 8
 oa:Nat
 na:Nat
 ob:Nat
 nb:Nat
 oc:Nat
 nc:Nat
 oe:Nat
 ne:Nat
 t:BitVec 32
 m:BitVec 32
 p:BitVec 32
 k:BitVec 32
 mo:Int
def c20_rd (a:List AV) (K:List Blk):Option c20D:=
 match a with
 | [(.ref (.sl 0 (.s oa) (.s na) none)),(.ref (.sl 1 (.s ob) (.s nb) none)),(.ref (.sl 2 (.s oc) (.s nc) none)),(.ref (.sl 3 (.s oe) (.s ne) none)),(.num (.w32 t)),(.num (.w32 m)),(.num (.w32 p)),(.num (.w32 k)),(.num (.int .i64 (.s mo)))]=>
  match K with
  | [⟨(.b8 a),.ro⟩,⟨(.b8 b),.ro⟩,⟨(.b8 c),.ro⟩,⟨(.b8 e),.ro⟩]=>some ⟨a,b,c,e,oa,na,ob,nb,oc,nc,oe,ne,t,m,p,k,mo⟩
  | _=>none
 | _=>none
def c20:Ct c20D where
 pat:=[(.sl 0 (.s 0) (.s 0) none),(.sl 1 (.s 0) (.s 0) none),(.sl 2 (.s 0) (.s 0) none),(.sl 3 (.s 0) (.s 0) none),(.w32 0#32),(.w32 0#32),(.w32 0#32),(.w32 0#32),(.int .i64 (.s 0))]
 patH:=[⟨(.b8 (Vec.zero 8 0)),.ro⟩,⟨(.b8 (Vec.zero 8 0)),.ro⟩,⟨(.b8 (Vec.zero 8 0)),.ro⟩,⟨(.b8 (Vec.zero 8 0)),.ro⟩]
 read:=c20_rd
 args:=fun ⟨_,_,_,_,oa,na,ob,nb,oc,nc,oe,ne,t,m,p,k,mo⟩=>[(.sl 0 (.s oa) (.s na) none),(.sl 1 (.s ob) (.s nb) none),(.sl 2 (.s oc) (.s nc) none),(.sl 3 (.s oe) (.s ne) none),(.w32 t),(.w32 m),(.w32 p),(.w32 k),(.int .i64 (.s mo))]
 heap:=fun ⟨a,b,c,e,_,_,_,_,_,_,_,_,_,_,_,_,_⟩=>[⟨(.b8 a),.ro⟩,⟨(.b8 b),.ro⟩,⟨(.b8 c),.ro⟩,⟨(.b8 e),.ro⟩]
 out:=fun ⟨a,b,c,e,_,_,_,_,_,_,_,_,_,_,_,_,_⟩=>[⟨(.b8 a),.ro⟩,⟨(.b8 b),.ro⟩,⟨(.b8 c),.ro⟩,⟨(.b8 e),.ro⟩]
 val:=fun ⟨a,b,c,e,oa,na,ob,nb,oc,nc,oe,ne,t,m,p,k,mo⟩=>(.agg (c8v (begV (begD a b c e oa na ob nb oc nc oe ne t m p k mo)) 72))
 good:=fun ⟨a,b,c,e,oa,na,ob,nb,oc,nc,oe,ne,_,_,_,_,_⟩=>decide (oa + na ≤ a.n ∧ na ≤ 1000000 ∧ ob + nb ≤ b.n ∧ nb ≤ 1000000 ∧ oc + nc ≤ c.n ∧ nc ≤ 1000000 ∧ oe + ne ≤ e.n ∧ ne ≤ 1000000)
theorem c20_run (a b c e:Vec 8) (oa na ob nb oc nc oe ne:Nat) (t m p k:BitVec 32) (mo:Int):endsAs (c20.heap ⟨a,b,c,e,oa,na,ob,nb,oc,nc,oe,ne,t,m,p,k,mo⟩).length (some [0,1,2,3]) (c20.out ⟨a,b,c,e,oa,na,ob,nb,oc,nc,oe,ne,t,m,p,k,mo⟩) (c20.val ⟨a,b,c,e,oa,na,ob,nb,oc,nc,oe,ne,t,m,p,k,mo⟩) (goB specs20 noLoop 20 (c20.args ⟨a,b,c,e,oa,na,ob,nb,oc,nc,oe,ne,t,m,p,k,mo⟩) ⟨c20.heap ⟨a,b,c,e,oa,na,ob,nb,oc,nc,oe,ne,t,m,p,k,mo⟩,big,[],[]⟩) = some ((c20.out ⟨a,b,c,e,oa,na,ob,nb,oc,nc,oe,ne,t,m,p,k,mo⟩),(c20.val ⟨a,b,c,e,oa,na,ob,nb,oc,nc,oe,ne,t,m,p,k,mo⟩),[decide (((oa + na) ≤ a.n ∧ (na ≤ 1000000 ∧ ((ob + nb) ≤ b.n ∧ (nb ≤ 1000000 ∧ ((oc + nc) ≤ c.n ∧ (nc ≤ 1000000 ∧ ((oe + ne) ≤ e.n ∧ ne ≤ 1000000))))))))]):=by kernel_rfl
set_option maxRecDepth 100000 in
theorem c20_read (a:List AV) (K:List Blk) (d:c20D) (h:c20.read a K = some d):a = c20.args d ∧ K = c20.heap d:=by
 replace h:c20_rd a K = some d:=h
 unfold c20_rd at h
 split at h
 case h_2=>cases h
 split at h
 case h_2=>cases h
 injection h with h;subst h
 exact ⟨rfl,rfl⟩
theorem c20_ok:SpecOk Tryd.prog noGlob 20 c20.spec:=by
 refine c20.ok (goB_ok specs20_ok (no_loops _)) c20_read ?_
 rintro ⟨a,b,c,e,oa,na,ob,nb,oc,nc,oe,ne,t,m,p,k,mo⟩ hg
 have hg:oa + na ≤ a.n ∧ na ≤ 1000000 ∧ ob + nb ≤ b.n ∧ nb ≤ 1000000 ∧ oc + nc ≤ c.n ∧ nc ≤ 1000000 ∧ oe + ne ≤ e.n ∧ ne ≤ 1000000:=of_decide_eq_true hg
 refine ⟨[],(some [0,1,2,3]),_,c20_run a b c e oa na ob nb oc nc oe ne t m p k mo,?_⟩
 repeat' (refine all_true_cons ?_ ?_)
 all_goals first | exact all_true_nil | rfl | (simp only [bq] <;> omega)
def specs13:FuncId → Option Eng.Spec
 | 20=>some c20.spec
 | _=>none
theorem specs13_ok:∀ f sp,specs13 f = some sp → SpecOk Tryd.prog noGlob f sp:=by
 intro f sp h
 unfold specs13 at h
 split at h
 ·injection h with h;subst h;exact c20_ok
 ·cases h
structure c13D where
 a:Vec 8
 b:Vec 8
 c:Vec 8
 e:Vec 8
 oa:Nat
 na:Nat
 ob:Nat
 nb:Nat
 oc:Nat
 nc:Nat
 oe:Nat
 ne:Nat
 t:Int
 m:Int
 p:Int
 k:Int
 mo:Int
def c13_rd (a:List AV) (K:List Blk):Option c13D:=
 match a with
 | [(.num (.int .i64 (.s mo))),(.ref (.sl 0 (.s oa) (.s na) none)),(.ref (.sl 1 (.s ob) (.s nb) none)),(.ref (.sl 2 (.s oc) (.s nc) none)),(.ref (.sl 3 (.s oe) (.s ne) none)),(.num (.int .i64 (.s t))),(.num (.int .i64 (.s m))),(.num (.int .i64 (.s p))),(.num (.int .i64 (.s k)))]=>
  match K with
  | [⟨(.b8 a),.ro⟩,⟨(.b8 b),.ro⟩,⟨(.b8 c),.ro⟩,⟨(.b8 e),.ro⟩]=>some ⟨a,b,c,e,oa,na,ob,nb,oc,nc,oe,ne,t,m,p,k,mo⟩
  | _=>none
 | _=>none
def c13:Ct c13D where
 pat:=[(.int .i64 (.s 0)),(.sl 0 (.s 0) (.s 0) none),(.sl 1 (.s 0) (.s 0) none),(.sl 2 (.s 0) (.s 0) none),(.sl 3 (.s 0) (.s 0) none),(.int .i64 (.s 0)),(.int .i64 (.s 0)),(.int .i64 (.s 0)),(.int .i64 (.s 0))]
 patH:=[⟨(.b8 (Vec.zero 8 0)),.ro⟩,⟨(.b8 (Vec.zero 8 0)),.ro⟩,⟨(.b8 (Vec.zero 8 0)),.ro⟩,⟨(.b8 (Vec.zero 8 0)),.ro⟩]
 read:=c13_rd
 args:=fun ⟨_,_,_,_,oa,na,ob,nb,oc,nc,oe,ne,t,m,p,k,mo⟩=>[(.int .i64 (.s mo)),(.sl 0 (.s oa) (.s na) none),(.sl 1 (.s ob) (.s nb) none),(.sl 2 (.s oc) (.s nc) none),(.sl 3 (.s oe) (.s ne) none),(.int .i64 (.s t)),(.int .i64 (.s m)),(.int .i64 (.s p)),(.int .i64 (.s k))]
 heap:=fun ⟨a,b,c,e,_,_,_,_,_,_,_,_,_,_,_,_,_⟩=>[⟨(.b8 a),.ro⟩,⟨(.b8 b),.ro⟩,⟨(.b8 c),.ro⟩,⟨(.b8 e),.ro⟩]
 out:=fun ⟨a,b,c,e,_,_,_,_,_,_,_,_,_,_,_,_,_⟩=>[⟨(.b8 a),.ro⟩,⟨(.b8 b),.ro⟩,⟨(.b8 c),.ro⟩,⟨(.b8 e),.ro⟩]
 val:=fun ⟨a,b,c,e,oa,na,ob,nb,oc,nc,oe,ne,t,m,p,k,mo⟩=>(.agg (c8v (begV (begD a b c e oa na ob nb oc nc oe ne (BitVec.ofInt 32 t) (BitVec.ofInt 32 m) (BitVec.ofInt 32 p) (BitVec.ofInt 32 k) mo)) 72))
 good:=fun ⟨a,b,c,e,oa,na,ob,nb,oc,nc,oe,ne,_,_,_,_,_⟩=>decide (oa + na ≤ a.n ∧ na ≤ 1000000 ∧ ob + nb ≤ b.n ∧ nb ≤ 1000000 ∧ oc + nc ≤ c.n ∧ nc ≤ 1000000 ∧ oe + ne ≤ e.n ∧ ne ≤ 1000000)
theorem c13_run (a b c e:Vec 8) (oa na ob nb oc nc oe ne:Nat) (t m p k mo:Int):endsAs (c13.heap ⟨a,b,c,e,oa,na,ob,nb,oc,nc,oe,ne,t,m,p,k,mo⟩).length (some [0,1,2,3]) (c13.out ⟨a,b,c,e,oa,na,ob,nb,oc,nc,oe,ne,t,m,p,k,mo⟩) (c13.val ⟨a,b,c,e,oa,na,ob,nb,oc,nc,oe,ne,t,m,p,k,mo⟩) (goB specs13 noLoop 13 (c13.args ⟨a,b,c,e,oa,na,ob,nb,oc,nc,oe,ne,t,m,p,k,mo⟩) ⟨c13.heap ⟨a,b,c,e,oa,na,ob,nb,oc,nc,oe,ne,t,m,p,k,mo⟩,big,[],[]⟩) = some ((c13.out ⟨a,b,c,e,oa,na,ob,nb,oc,nc,oe,ne,t,m,p,k,mo⟩),(c13.val ⟨a,b,c,e,oa,na,ob,nb,oc,nc,oe,ne,t,m,p,k,mo⟩),[decide (((oa + na) ≤ a.n ∧ (na ≤ 1000000 ∧ ((ob + nb) ≤ b.n ∧ (nb ≤ 1000000 ∧ ((oc + nc) ≤ c.n ∧ (nc ≤ 1000000 ∧ ((oe + ne) ≤ e.n ∧ ne ≤ 1000000))))))))]):=by kernel_rfl
set_option maxRecDepth 100000 in
theorem c13_read (a:List AV) (K:List Blk) (d:c13D) (h:c13.read a K = some d):a = c13.args d ∧ K = c13.heap d:=by
 replace h:c13_rd a K = some d:=h
 unfold c13_rd at h
 split at h
 case h_2=>cases h
 split at h
 case h_2=>cases h
 injection h with h;subst h
 exact ⟨rfl,rfl⟩
theorem c13_ok:SpecOk Tryd.prog noGlob 13 c13.spec:=by
 refine c13.ok (goB_ok specs13_ok (no_loops _)) c13_read ?_
 rintro ⟨a,b,c,e,oa,na,ob,nb,oc,nc,oe,ne,t,m,p,k,mo⟩ hg
 have hg:oa + na ≤ a.n ∧ na ≤ 1000000 ∧ ob + nb ≤ b.n ∧ nb ≤ 1000000 ∧ oc + nc ≤ c.n ∧ nc ≤ 1000000 ∧ oe + ne ≤ e.n ∧ ne ≤ 1000000:=of_decide_eq_true hg
 refine ⟨[],(some [0,1,2,3]),_,c13_run a b c e oa na ob nb oc nc oe ne t m p k mo,?_⟩
 repeat' (refine all_true_cons ?_ ?_)
 all_goals first | exact all_true_nil | rfl | (simp only [bq] <;> omega)
structure c14D where
 a:Vec 8
 b:Vec 8
 c:Vec 8
 e:Vec 8
 oa:Nat
 na:Nat
 ob:Nat
 nb:Nat
 oc:Nat
 nc:Nat
 oe:Nat
 ne:Nat
 t:Int
 m:Int
 p:Int
 k:Int
 mo:Int
def c14_rd (a:List AV) (K:List Blk):Option c14D:=
 match a with
 | [(.num (.int .i64 (.s mo))),(.ref (.sl 0 (.s oa) (.s na) none)),(.ref (.sl 1 (.s ob) (.s nb) none)),(.ref (.sl 2 (.s oc) (.s nc) none)),(.ref (.sl 3 (.s oe) (.s ne) none)),(.num (.int .i64 (.s t))),(.num (.int .i64 (.s m))),(.num (.int .i64 (.s p))),(.num (.int .i64 (.s k))),(.agg cs_sigL)]=>
  match K with
  | [⟨(.b8 a),.ro⟩,⟨(.b8 b),.ro⟩,⟨(.b8 c),.ro⟩,⟨(.b8 e),.ro⟩]=>
   (match eqC cs_sigL sigL with
   | true=>some ⟨a,b,c,e,oa,na,ob,nb,oc,nc,oe,ne,t,m,p,k,mo⟩
   | false=>none)
  | _=>none
 | _=>none
def c14:Ct c14D where
 pat:=[(.int .i64 (.s 0)),(.sl 0 (.s 0) (.s 0) none),(.sl 1 (.s 0) (.s 0) none),(.sl 2 (.s 0) (.s 0) none),(.sl 3 (.s 0) (.s 0) none),(.int .i64 (.s 0)),(.int .i64 (.s 0)),(.int .i64 (.s 0)),(.int .i64 (.s 0)),(.agg (mkC sigL))]
 patH:=[⟨(.b8 (Vec.zero 8 0)),.ro⟩,⟨(.b8 (Vec.zero 8 0)),.ro⟩,⟨(.b8 (Vec.zero 8 0)),.ro⟩,⟨(.b8 (Vec.zero 8 0)),.ro⟩]
 read:=c14_rd
 args:=fun ⟨_,_,_,_,oa,na,ob,nb,oc,nc,oe,ne,t,m,p,k,mo⟩=>[(.int .i64 (.s mo)),(.sl 0 (.s oa) (.s na) none),(.sl 1 (.s ob) (.s nb) none),(.sl 2 (.s oc) (.s nc) none),(.sl 3 (.s oe) (.s ne) none),(.int .i64 (.s t)),(.int .i64 (.s m)),(.int .i64 (.s p)),(.int .i64 (.s k)),(.agg (mkC sigL))]
 heap:=fun ⟨a,b,c,e,_,_,_,_,_,_,_,_,_,_,_,_,_⟩=>[⟨(.b8 a),.ro⟩,⟨(.b8 b),.ro⟩,⟨(.b8 c),.ro⟩,⟨(.b8 e),.ro⟩]
 out:=fun ⟨a,b,c,e,_,_,_,_,_,_,_,_,_,_,_,_,_⟩=>[⟨(.b8 a),.ro⟩,⟨(.b8 b),.ro⟩,⟨(.b8 c),.ro⟩,⟨(.b8 e),.ro⟩]
 val:=fun ⟨a,b,c,e,oa,na,ob,nb,oc,nc,oe,ne,t,m,p,k,mo⟩=>(.agg (c8v (begS a b c e oa na ob nb oc nc oe ne (BitVec.ofInt 32 t) (BitVec.ofInt 32 m) p k mo) 72))
 good:=fun ⟨a,b,c,e,oa,na,ob,nb,oc,nc,oe,ne,_,_,_,_,_⟩=>decide (oa + na ≤ a.n ∧ na ≤ 1000000 ∧ ob + nb ≤ b.n ∧ nb ≤ 1000000 ∧ oc + nc ≤ c.n ∧ nc ≤ 1000000 ∧ oe + ne ≤ e.n ∧ ne ≤ 1000000)
theorem c14_run (a b c e:Vec 8) (oa na ob nb oc nc oe ne:Nat) (t m p k mo:Int):endsAs (c14.heap ⟨a,b,c,e,oa,na,ob,nb,oc,nc,oe,ne,t,m,p,k,mo⟩).length (some [0,1,2,3]) (c14.out ⟨a,b,c,e,oa,na,ob,nb,oc,nc,oe,ne,t,m,p,k,mo⟩) (c14.val ⟨a,b,c,e,oa,na,ob,nb,oc,nc,oe,ne,t,m,p,k,mo⟩) (goB specs14 noLoop 14 (c14.args ⟨a,b,c,e,oa,na,ob,nb,oc,nc,oe,ne,t,m,p,k,mo⟩) ⟨c14.heap ⟨a,b,c,e,oa,na,ob,nb,oc,nc,oe,ne,t,m,p,k,mo⟩,big,[],[]⟩) = some ((c14.out ⟨a,b,c,e,oa,na,ob,nb,oc,nc,oe,ne,t,m,p,k,mo⟩),(c14.val ⟨a,b,c,e,oa,na,ob,nb,oc,nc,oe,ne,t,m,p,k,mo⟩),[decide ((72:Nat) ≤ 72),decide (0 + (0:Int).toNat * 1 + Nat.min (zO (begC a b c e oa na ob nb oc nc oe ne (BitVec.ofInt 32 t) (BitVec.ofInt 32 m) p k mo) 0 (begK na nb nc ne) 64).k ((72:Int).toNat - (0:Int).toNat) ≤ 72),decide (0 + Nat.min (zO (begC a b c e oa na ob nb oc nc oe ne (BitVec.ofInt 32 t) (BitVec.ofInt 32 m) p k mo) 0 (begK na nb nc ne) 64).k ((72:Int).toNat - (0:Int).toNat) ≤ (zO (begC a b c e oa na ob nb oc nc oe ne (BitVec.ofInt 32 t) (BitVec.ofInt 32 m) p k mo) 0 (begK na nb nc ne) 64).u.n),decide (oa + na ≤ a.n ∧ na ≤ 1000000 ∧ ob + nb ≤ b.n ∧ nb ≤ 1000000 ∧ oc + nc ≤ c.n ∧ nc ≤ 1000000 ∧ oe + ne ≤ e.n ∧ ne ≤ 1000000)]):=by kernel_rfl
set_option maxRecDepth 100000 in
theorem c14_read (a:List AV) (K:List Blk) (d:c14D) (h:c14.read a K = some d):a = c14.args d ∧ K = c14.heap d:=by
 replace h:c14_rd a K = some d:=h
 unfold c14_rd at h
 split at h
 case h_2=>cases h
 split at h
 case h_2=>cases h
 split at h
 case h_2=>cases h
 rename_i hc
 obtain rfl:=eqC_eq hc
 injection h with h;subst h
 exact ⟨rfl,rfl⟩
theorem c14_ok:SpecOk Tryd.prog noGlob 14 c14.spec:=by
 refine c14.ok (goB_ok specs14_ok (no_loops _)) c14_read ?_
 rintro ⟨a,b,c,e,oa,na,ob,nb,oc,nc,oe,ne,t,m,p,k,mo⟩ hg
 have hg:oa + na ≤ a.n ∧ na ≤ 1000000 ∧ ob + nb ≤ b.n ∧ nb ≤ 1000000 ∧ oc + nc ≤ c.n ∧ nc ≤ 1000000 ∧ oe + ne ≤ e.n ∧ ne ≤ 1000000:=of_decide_eq_true hg
 refine ⟨[],(some [0,1,2,3]),_,c14_run a b c e oa na ob nb oc nc oe ne t m p k mo,?_⟩
 obtain ⟨z1,z2⟩:=zO_n (begC a b c e oa na ob nb oc nc oe ne (BitVec.ofInt 32 t) (BitVec.ofInt 32 m) p k mo) 0 (begK na nb nc ne) 64 (by omega)
 have z1:(zO (begC a b c e oa na ob nb oc nc oe ne (BitVec.ofInt 32 t) (BitVec.ofInt 32 m) p k mo) 0 (begK na nb nc ne) 64).u.n = 64:=z1
 have z2:(zO (begC a b c e oa na ob nb oc nc oe ne (BitVec.ofInt 32 t) (BitVec.ofInt 32 m) p k mo) 0 (begK na nb nc ne) 64).k = 64:=z2
 rw [z1,z2]
 exact all_true_cons (by decide) (all_true_cons (by decide) (all_true_cons (by decide) (all_true_cons (decide_eq_true hg) all_true_nil)))
end
section
open Go.Eng
variable [RowAddr] [Co] [SeatCo]
def specs4:FuncId → Option Eng.Spec
 | 6=>some c6.spec
 | 10=>some c10.spec
 | 13=>some c13.spec
 | 14=>some c14.spec
 | _=>none
theorem specs4_ok (h6:SpecOk Tryd.prog noGlob 6 c6.spec):∀ f sp,specs4 f = some sp → SpecOk Tryd.prog noGlob f sp:=by
 intro f sp h
 unfold specs4 at h
 split at h
 ·injection h with h;subst h;exact h6
 ·injection h with h;subst h;exact c10_ok
 ·injection h with h;subst h;exact c13_ok
 ·injection h with h;subst h;exact c14_ok
 ·cases h
end
section
open Go.Eng
variable [RowAddr] [Co] [SeatCo]
def eqF (X Y:Vec 8):Nat → Nat → Bool
 | 0,_=>true
 | n + 1,i=>(X.l.getD i 0#8 == Y.l.getD i 0#8) && eqF X Y n (i + 1)
theorem eqF_of {X Y:Vec 8}:∀ n i,(∀ j,j < n + i → X.l.getD j 0#8 = Y.l.getD j 0#8) → eqF X Y n i = true
 | 0,_,_=>rfl
 | n + 1,i,h=>by
  show ((X.l.getD i 0#8 == Y.l.getD i 0#8) && eqF X Y n (i + 1)) = true
  rw [h i (by omega),eqF_of n (i + 1) fun j hj=>h j (by omega),beq_self_eq_true]
  rfl
noncomputable def run4 (a b c e:Vec 8) (t m p k mo:Int) (dec:List Bool):Option (Bool × List Bool):=verdict (goB specs4 noLoop 4 [.num (.int .i64 (.s mo)),.agg [.ref (.sl 0 (.c 0) (.s a.n) none),.ref (.sl 1 (.c 0) (.s b.n) none),.ref (.sl 2 (.c 0) (.s c.n) none),.ref (.sl 3 (.c 0) (.s e.n) none)],.agg [.num (.int .i64 (.s t)),.num (.int .i64 (.s m)),.num (.int .i64 (.s p)),.num (.int .i64 (.s k))]] ⟨[⟨.b8 a,.ro⟩,⟨.b8 b,.ro⟩,⟨.b8 c,.ro⟩,⟨.b8 e,.ro⟩],big,dec,[]⟩)
def kk1 (a b c e:Vec 8) (t m p k mo:Int):List Bool:=(decide ((2147483647:Int) < ((a.n:Nat):Int)) == false) :: []
def kk2 (a b c e:Vec 8) (t m p k mo:Int):List Bool:=(decide ((2147483647:Int) < ((b.n:Nat):Int)) == false) :: kk1 a b c e t m p k mo
def kk3 (a b c e:Vec 8) (t m p k mo:Int):List Bool:=(decide ((2147483647:Int) < ((c.n:Nat):Int)) == false) :: kk2 a b c e t m p k mo
def kk4 (a b c e:Vec 8) (t m p k mo:Int):List Bool:=(decide ((2147483647:Int) < ((e.n:Nat):Int)) == false) :: kk3 a b c e t m p k mo
def kk7 (a b c e:Vec 8) (t m p k mo:Int):List Bool:=(decide (mo < 0) == false) :: (decide (mo < 0) == false) :: (decide (mo < 0) == false) :: kk4 a b c e t m p k mo
def kk9 (a b c e:Vec 8) (t m p k mo:Int):List Bool:=(decide ((2:Int) < mo) == false) :: (decide ((2:Int) < mo) == false) :: kk7 a b c e t m p k mo
def kk10 (a b c e:Vec 8) (t m p k mo:Int):List Bool:=(decide ((65536:Int) < ((a.n:Nat):Int)) == false) :: kk9 a b c e t m p k mo
def kk11 (a b c e:Vec 8) (t m p k mo:Int):List Bool:=(decide ((65536:Int) < ((b.n:Nat):Int)) == false) :: kk10 a b c e t m p k mo
def kk12 (a b c e:Vec 8) (t m p k mo:Int):List Bool:=(decide ((65536:Int) < ((c.n:Nat):Int)) == false) :: kk11 a b c e t m p k mo
def kk15 (a b c e:Vec 8) (t m p k mo:Int):List Bool:=(decide ((2:Int) < mo) == false) :: (decide ((2:Int) < mo) == false) :: (decide ((65536:Int) < ((e.n:Nat):Int)) == false) :: kk12 a b c e t m p k mo
def kk18 (a b c e:Vec 8) (t m p k mo:Int):List Bool:=(decide ((0:Int) ≤ t) == true) :: (decide ((0:Int) ≤ t) == true) :: (decide ((0:Int) ≤ t) == true) :: kk15 a b c e t m p k mo
def kk21 (a b c e:Vec 8) (t m p k mo:Int):List Bool:=(decide (t ≤ 4) == true) :: (decide (t ≤ 4) == true) :: (decide (t ≤ 4) == true) :: kk18 a b c e t m p k mo
def kk24 (a b c e:Vec 8) (t m p k mo:Int):List Bool:=(decide ((0:Int) ≤ m) == true) :: (decide ((0:Int) ≤ m) == true) :: (decide ((0:Int) ≤ m) == true) :: kk21 a b c e t m p k mo
def kk27 (a b c e:Vec 8) (t m p k mo:Int):List Bool:=(decide (m ≤ 256) == true) :: (decide (m ≤ 256) == true) :: (decide (m ≤ 256) == true) :: kk24 a b c e t m p k mo
def kk30 (a b c e:Vec 8) (t m p k mo:Int):List Bool:=(decide ((0:Int) ≤ p) == true) :: (decide ((0:Int) ≤ p) == true) :: (decide ((0:Int) ≤ p) == true) :: kk27 a b c e t m p k mo
def kk33 (a b c e:Vec 8) (t m p k mo:Int):List Bool:=(decide (p ≤ 8) == true) :: (decide (p ≤ 8) == true) :: (decide (p ≤ 8) == true) :: kk30 a b c e t m p k mo
def kk36 (a b c e:Vec 8) (t m p k mo:Int):List Bool:=(decide ((1:Int) ≤ k) == true) :: (decide ((1:Int) ≤ k) == true) :: (decide ((1:Int) ≤ k) == true) :: kk33 a b c e t m p k mo
def kk43 (a b c e:Vec 8) (t m p k mo:Int):List Bool:=(eqF (begV (begD a b c e 0 a.n 0 b.n 0 c.n 0 e.n (BitVec.ofInt 32 t) (BitVec.ofInt 32 m) (BitVec.ofInt 32 p) (BitVec.ofInt 32 k) mo)) (begS a b c e 0 a.n 0 b.n 0 c.n 0 e.n (BitVec.ofInt 32 t) (BitVec.ofInt 32 m) p k mo) 72 0 == true) :: decide (True) :: (eqF (begV (begD a b c e 0 a.n 0 b.n 0 c.n 0 e.n (BitVec.ofInt 32 t) (BitVec.ofInt 32 m) (BitVec.ofInt 32 p) (BitVec.ofInt 32 k) mo)) (begS a b c e 0 a.n 0 b.n 0 c.n 0 e.n (BitVec.ofInt 32 t) (BitVec.ofInt 32 m) p k mo) 72 0 == true) :: decide (((0 + a.n) ≤ a.n ∧ (a.n ≤ 1000000 ∧ ((0 + b.n) ≤ b.n ∧ (b.n ≤ 1000000 ∧ ((0 + c.n) ≤ c.n ∧ (c.n ≤ 1000000 ∧ ((0 + e.n) ≤ e.n ∧ e.n ≤ 1000000)))))))) :: decide (True) :: decide (((0 + a.n) ≤ a.n ∧ (a.n ≤ 1000000 ∧ ((0 + b.n) ≤ b.n ∧ (b.n ≤ 1000000 ∧ ((0 + c.n) ≤ c.n ∧ (c.n ≤ 1000000 ∧ ((0 + e.n) ≤ e.n ∧ e.n ≤ 1000000)))))))) :: ((!decide (k ≤ 1024)) == false) :: kk36 a b c e t m p k mo
theorem st_z0 (a b c e:Vec 8) (t m p k mo:Int):run4 a b c e t m p k mo [true] = some (true,(decide ((2147483647:Int) < ((a.n:Nat):Int)) == true) :: []):=by kernel_rfl
theorem st_z1 (a b c e:Vec 8) (t m p k mo:Int):run4 a b c e t m p k mo [false,true] = some (true,(decide ((2147483647:Int) < ((b.n:Nat):Int)) == true) :: kk1 a b c e t m p k mo):=by kernel_rfl
theorem st_z2 (a b c e:Vec 8) (t m p k mo:Int):run4 a b c e t m p k mo [false,false,true] = some (true,(decide ((2147483647:Int) < ((c.n:Nat):Int)) == true) :: kk2 a b c e t m p k mo):=by kernel_rfl
theorem st_z3 (a b c e:Vec 8) (t m p k mo:Int):run4 a b c e t m p k mo [false,false,false,true] = some (true,(decide ((2147483647:Int) < ((e.n:Nat):Int)) == true) :: kk3 a b c e t m p k mo):=by kernel_rfl
theorem st_m0 (a b c e:Vec 8) (t m p k mo:Int):run4 a b c e t m p k mo [false,false,false,false,true,true,true] = some (true,decide (True) :: (decide (mo < 0) == true) :: (decide (mo < 0) == true) :: (decide (mo < 0) == true) :: kk4 a b c e t m p k mo):=by kernel_rfl
theorem st_m1 (a b c e:Vec 8) (t m p k mo:Int):run4 a b c e t m p k mo [false,false,false,false,false,false,false,true,true,true,true] = some (true,decide (True) :: (decide ((2:Int) < mo) == true) :: (decide ((2:Int) < mo) == true) :: (decide ((2:Int) < mo) == true) :: (decide ((2:Int) < mo) == true) :: kk7 a b c e t m p k mo):=by kernel_rfl
theorem st_s0 (a b c e:Vec 8) (t m p k mo:Int):run4 a b c e t m p k mo [false,false,false,false,false,false,false,false,false,true,false,false] = some (true,decide (True) :: (decide ((2:Int) < mo) == false) :: (decide ((2:Int) < mo) == false) :: (decide ((65536:Int) < ((a.n:Nat):Int)) == true) :: kk9 a b c e t m p k mo):=by kernel_rfl
theorem st_s1 (a b c e:Vec 8) (t m p k mo:Int):run4 a b c e t m p k mo [false,false,false,false,false,false,false,false,false,false,true,false,false] = some (true,decide (True) :: (decide ((2:Int) < mo) == false) :: (decide ((2:Int) < mo) == false) :: (decide ((65536:Int) < ((b.n:Nat):Int)) == true) :: kk10 a b c e t m p k mo):=by kernel_rfl
theorem st_s2 (a b c e:Vec 8) (t m p k mo:Int):run4 a b c e t m p k mo [false,false,false,false,false,false,false,false,false,false,false,true,false,false] = some (true,decide (True) :: (decide ((2:Int) < mo) == false) :: (decide ((2:Int) < mo) == false) :: (decide ((65536:Int) < ((c.n:Nat):Int)) == true) :: kk11 a b c e t m p k mo):=by kernel_rfl
theorem st_s3 (a b c e:Vec 8) (t m p k mo:Int):run4 a b c e t m p k mo [false,false,false,false,false,false,false,false,false,false,false,false,true,false,false] = some (true,decide (True) :: (decide ((2:Int) < mo) == false) :: (decide ((2:Int) < mo) == false) :: (decide ((65536:Int) < ((e.n:Nat):Int)) == true) :: kk12 a b c e t m p k mo):=by kernel_rfl
theorem st_c00 (a b c e:Vec 8) (t m p k mo:Int):run4 a b c e t m p k mo [false,false,false,false,false,false,false,false,false,false,false,false,false,false,false,false,false,false] = some (true,decide (True) :: (decide ((0:Int) ≤ t) == false) :: (decide ((0:Int) ≤ t) == false) :: (decide ((0:Int) ≤ t) == false) :: kk15 a b c e t m p k mo):=by kernel_rfl
theorem st_c01 (a b c e:Vec 8) (t m p k mo:Int):run4 a b c e t m p k mo [false,false,false,false,false,false,false,false,false,false,false,false,false,false,false,true,true,true,false,false,false] = some (true,decide (True) :: (decide (t ≤ 4) == false) :: (decide (t ≤ 4) == false) :: (decide (t ≤ 4) == false) :: kk18 a b c e t m p k mo):=by kernel_rfl
theorem st_c10 (a b c e:Vec 8) (t m p k mo:Int):run4 a b c e t m p k mo [false,false,false,false,false,false,false,false,false,false,false,false,false,false,false,true,true,true,true,true,true,false,false,false] = some (true,decide (True) :: (decide ((0:Int) ≤ m) == false) :: (decide ((0:Int) ≤ m) == false) :: (decide ((0:Int) ≤ m) == false) :: kk21 a b c e t m p k mo):=by kernel_rfl
theorem st_c11 (a b c e:Vec 8) (t m p k mo:Int):run4 a b c e t m p k mo [false,false,false,false,false,false,false,false,false,false,false,false,false,false,false,true,true,true,true,true,true,true,true,true,false,false,false] = some (true,decide (True) :: (decide (m ≤ 256) == false) :: (decide (m ≤ 256) == false) :: (decide (m ≤ 256) == false) :: kk24 a b c e t m p k mo):=by kernel_rfl
theorem st_c20 (a b c e:Vec 8) (t m p k mo:Int):run4 a b c e t m p k mo [false,false,false,false,false,false,false,false,false,false,false,false,false,false,false,true,true,true,true,true,true,true,true,true,true,true,true,false,false,false] = some (true,decide (True) :: (decide ((0:Int) ≤ p) == false) :: (decide ((0:Int) ≤ p) == false) :: (decide ((0:Int) ≤ p) == false) :: kk27 a b c e t m p k mo):=by kernel_rfl
theorem st_c21 (a b c e:Vec 8) (t m p k mo:Int):run4 a b c e t m p k mo [false,false,false,false,false,false,false,false,false,false,false,false,false,false,false,true,true,true,true,true,true,true,true,true,true,true,true,true,true,true,false,false,false] = some (true,decide (True) :: (decide (p ≤ 8) == false) :: (decide (p ≤ 8) == false) :: (decide (p ≤ 8) == false) :: kk30 a b c e t m p k mo):=by kernel_rfl
theorem st_c30 (a b c e:Vec 8) (t m p k mo:Int):run4 a b c e t m p k mo [false,false,false,false,false,false,false,false,false,false,false,false,false,false,false,true,true,true,true,true,true,true,true,true,true,true,true,true,true,true,true,true,true,false,false,false] = some (true,decide (True) :: (decide ((1:Int) ≤ k) == false) :: (decide ((1:Int) ≤ k) == false) :: (decide ((1:Int) ≤ k) == false) :: kk33 a b c e t m p k mo):=by kernel_rfl
theorem st_c31 (a b c e:Vec 8) (t m p k mo:Int):run4 a b c e t m p k mo [false,false,false,false,false,false,false,false,false,false,false,false,false,false,false,true,true,true,true,true,true,true,true,true,true,true,true,true,true,true,true,true,true,true,true,true,true] = some (true,decide (True) :: ((!decide (k ≤ 1024)) == true) :: kk36 a b c e t m p k mo):=by kernel_rfl
theorem st_ok (a b c e:Vec 8) (t m p k mo:Int):run4 a b c e t m p k mo [false,false,false,false,false,false,false,false,false,false,false,false,false,false,false,true,true,true,true,true,true,true,true,true,true,true,true,true,true,true,true,true,true,true,true,true,false,true,true] = some (true,kk43 a b c e t m p k mo):=by kernel_rfl
end
section
open Go.Eng
variable [RowAddr] [Co] [SeatCo]
theorem addC_n (x v:Vec 8) (o n:Nat):(addC x v o n).n = x.n + 4 + n:=rfl
theorem addC_lt (x v:Vec 8) (o n i:Nat) (h:i < x.n):(addC x v o n).l.getD i 0#8 = x.l.getD i 0#8:=by
 have e:(x.app (len4 n)).n = x.n + 4:=rfl
 unfold addC
 rw [app_get,e,if_pos (by omega),app_get,if_pos h]
theorem addC_len (x v:Vec 8) (o n i:Nat) (h:i < 4):(addC x v o n).l.getD (x.n + i) 0#8 = (len4 n).l.getD i 0#8:=by
 have e:(x.app (len4 n)).n = x.n + 4:=rfl
 unfold addC
 rw [app_get,e,if_pos (by omega),app_get,if_neg (by omega),Nat.add_sub_cancel_left]
theorem addC_v (x v:Vec 8) (o n i:Nat) (ho:o + n ≤ v.n) (h:i < n):(addC x v o n).l.getD (x.n + 4 + i) 0#8 = v.l.getD (o + i) 0#8:=by
 have e:(x.app (len4 n)).n = x.n + 4:=rfl
 unfold addC
 rw [app_get,e,if_neg (by omega),Nat.add_sub_cancel_left,sub_getD _ _ _ _ ho h]
theorem len4_n (n:Nat):(len4 n).n = 4:=rfl
theorem InvD.addL {h0:H8} {P:Nat → BitVec 8} {d:Dg} {x:Vec 8} (H:InvD h0 P d x.n) (v:Vec 8) (o n:Nat) (ho:o + n ≤ v.n) (hP:∀ i,i < (addC x v o n).n → P i = (addC x v o n).l.getD i 0#8):InvD h0 P (addL d v o n) (addC x v o n).n:=by
 have a:=InvD.step H (len4 n) 0 4 (by rw [len4_n];omega) fun i hi=>by
  rw [hP _ (by rw [addC_n];omega),addC_len _ _ _ _ _ hi,Nat.zero_add]
 exact InvD.step a v o n ho fun i hi=>by
  rw [hP _ (by rw [addC_n];omega),addC_v _ _ _ _ _ ho hi]
section
variable (a b c e:Vec 8) (oa na ob nb oc nc oe ne:Nat) (t m:BitVec 32) (p k mo:Int)
def parV:Vec 8:=par24 t m (BitVec.ofInt 32 p) (BitVec.ofInt 32 k) (BitVec.ofInt 32 mo)
theorem begC_eq:begC a b c e oa na ob nb oc nc oe ne t m p k mo = addC (addC (addC (addC (parV t m p k mo) a oa na) b ob nb) c oc nc) e oe ne:=by
 have:(par28 t m p k mo na).app (a.sub oa na) = addC (parV t m p k mo) a oa na:=rfl
 unfold begC
 rw [this]
theorem beg_sum (ha:oa + na ≤ a.n) (na':na ≤ 1000000) (hb:ob + nb ≤ b.n) (nb':nb ≤ 1000000) (hc:oc + nc ≤ c.n) (nc':nc ≤ 1000000) (he:oe + ne ≤ e.n) (ne':ne ≤ 1000000) :
 sumD (begD a b c e oa na ob nb oc nc oe ne t m (BitVec.ofInt 32 p) (BitVec.ofInt 32 k) mo) = lastS (begC a b c e oa na ob nb oc nc oe ne t m p k mo) 0 (begK na nb nc ne) 64:=by
 rw [begC_eq]
 generalize hx0:parV t m p k mo = x0
 have n0:x0.n = 24:=by rw [← hx0];rfl
 generalize hx1:addC x0 a oa na = x1
 generalize hx2:addC x1 b ob nb = x2
 generalize hx3:addC x2 c oc nc = x3
 generalize hx4:addC x3 e oe ne = x4
 have n1:x1.n = x0.n + 4 + na:=by rw [← hx1];rfl
 have n2:x2.n = x1.n + 4 + nb:=by rw [← hx2];rfl
 have n3:x3.n = x2.n + 4 + nc:=by rw [← hx3];rfl
 have n4:x4.n = x3.n + 4 + ne:=by rw [← hx4];rfl
 have p3:∀ i,i < x3.n → x4.l.getD i 0#8 = x3.l.getD i 0#8:=fun i hi=>by rw [← hx4];exact addC_lt _ _ _ _ _ hi
 have p2:∀ i,i < x2.n → x4.l.getD i 0#8 = x2.l.getD i 0#8:=fun i hi=>by rw [p3 i (by omega),← hx3];exact addC_lt _ _ _ _ _ hi
 have p1:∀ i,i < x1.n → x4.l.getD i 0#8 = x1.l.getD i 0#8:=fun i hi=>by rw [p2 i (by omega),← hx2];exact addC_lt _ _ _ _ _ hi
 have p0:∀ i,i < x0.n → x4.l.getD i 0#8 = x0.l.getD i 0#8:=fun i hi=>by rw [p1 i (by omega),← hx1];exact addC_lt _ _ _ _ _ hi
 have i0:=InvD.step (InvD.new 64 (fun i=>x4.l.getD i 0#8) Z128) x0 0 24 (by omega) (fun i hi=>by rw [Nat.zero_add];exact (p0 i (by omega)).symm)
 have i0:InvD (hI 64) (fun i=>x4.l.getD i 0#8) (begP t m (BitVec.ofInt 32 p) (BitVec.ofInt 32 k) mo) x0.n:=by rw [n0,← hx0] at *;exact i0
 have i1:=InvD.addL i0 a oa na ha (fun i hi=>by rw [hx1] at hi ⊢;exact p1 i hi)
 rw [hx1] at i1
 have i2:=InvD.addL i1 b ob nb hb (fun i hi=>by rw [hx2] at hi ⊢;exact p2 i hi)
 rw [hx2] at i2
 have i3:=InvD.addL i2 c oc nc hc (fun i hi=>by rw [hx3] at hi ⊢;exact p3 i hi)
 rw [hx3] at i3
 have i4:=InvD.addL i3 e oe ne he (fun i hi=>by rw [hx4])
 rw [hx4] at i4
 have eK:begK na nb nc ne = x4.n:=by unfold begK;omega
 unfold begD
 rw [sumD_eq i4 (by omega),lastS_eq _ _ _ _ (by omega) (by omega) (by omega),eK]
 exact finF_congr _ _ fun i _=>by rw [Nat.zero_add]
theorem beg_bytes (ha:oa + na ≤ a.n) (na':na ≤ 1000000) (hb:ob + nb ≤ b.n) (nb':nb ≤ 1000000) (hc:oc + nc ≤ c.n) (nc':nc ≤ 1000000) (he:oe + ne ≤ e.n) (ne':ne ≤ 1000000):∀ i,i < 72 →
 (begV (begD a b c e oa na ob nb oc nc oe ne t m (BitVec.ofInt 32 p) (BitVec.ofInt 32 k) mo)).l.getD i 0#8 = (begS a b c e oa na ob nb oc nc oe ne t m p k mo).l.getD i 0#8:=by
 intro i hi
 have hs:=beg_sum a b c e oa na ob nb oc nc oe ne t m p k mo ha na' hb nb' hc nc' he ne'
 have hz:Z72.n = 72:=rfl
 obtain ⟨z1,z2⟩:=zO_n (begC a b c e oa na ob nb oc nc oe ne t m p k mo) 0 (begK na nb nc ne) 64 (by omega)
 have z1:(zO (begC a b c e oa na ob nb oc nc oe ne t m p k mo) 0 (begK na nb nc ne) 64).u.n = 64:=z1
 have z2:(zO (begC a b c e oa na ob nb oc nc oe ne t m p k mo) 0 (begK na nb nc ne) 64).k = 64:=z2
 unfold begV begS begO
 have e1:Nat.min 64 72 = 64:=rfl
 rw [z2,e1,hs,sumV_get _ _ _ _ _ (by omega) (by omega) (by rw [hz];decide) (by rw [hz];exact hi),over_getD _ _ _ _ (by rw [sub_n,hz];omega) (by rw [hz];exact hi),sub_n]
 have e2:(64:Int).toNat = 64:=rfl
 rw [e2,Nat.zero_add]
 by_cases h:i < 64
 ·rw [if_pos ⟨Nat.zero_le _,h⟩,if_pos ⟨Nat.zero_le _,h⟩,Nat.sub_zero,sub_getD _ _ _ _ (by omega) h,Nat.zero_add,zO_bytes _ _ _ _ (by omega) (by omega) i (by omega)]
 ·rw [if_neg (fun q=>h q.2),if_neg (fun q=>h q.2)]
end
end
section
open Go.Eng
variable [RowAddr] [Co] [SeatCo]
theorem law4 (a b c e:Vec 8) (t m p k mo:Int):∃ dec cs,run4 a b c e t m p k mo dec = some (true,cs) ∧ ∀ x ∈ cs,x = true:=by
 by_cases h_z0:2147483647 < ((a.n:Nat):Int)
 ·refine ⟨_,_,st_z0 a b c e t m p k mo,?_⟩
  repeat' (refine all_true_cons ?_ ?_)
  all_goals first | exact all_true_nil | (simp only [bq] <;> omega)
 by_cases h_z1:2147483647 < ((b.n:Nat):Int)
 ·refine ⟨_,_,st_z1 a b c e t m p k mo,?_⟩
  repeat' (refine all_true_cons ?_ ?_)
  all_goals first | exact all_true_nil | (simp only [bq] <;> omega)
 by_cases h_z2:2147483647 < ((c.n:Nat):Int)
 ·refine ⟨_,_,st_z2 a b c e t m p k mo,?_⟩
  repeat' (refine all_true_cons ?_ ?_)
  all_goals first | exact all_true_nil | (simp only [bq] <;> omega)
 by_cases h_z3:2147483647 < ((e.n:Nat):Int)
 ·refine ⟨_,_,st_z3 a b c e t m p k mo,?_⟩
  repeat' (refine all_true_cons ?_ ?_)
  all_goals first | exact all_true_nil | (simp only [bq] <;> omega)
 by_cases h_m0:mo < 0
 ·refine ⟨_,_,st_m0 a b c e t m p k mo,?_⟩
  repeat' (refine all_true_cons ?_ ?_)
  all_goals first | exact all_true_nil | (simp only [bq] <;> omega)
 by_cases h_m1:2 < mo
 ·refine ⟨_,_,st_m1 a b c e t m p k mo,?_⟩
  repeat' (refine all_true_cons ?_ ?_)
  all_goals first | exact all_true_nil | (simp only [bq] <;> omega)
 by_cases h_s0:65536 < ((a.n:Nat):Int)
 ·refine ⟨_,_,st_s0 a b c e t m p k mo,?_⟩
  repeat' (refine all_true_cons ?_ ?_)
  all_goals first | exact all_true_nil | (simp only [bq] <;> omega)
 by_cases h_s1:65536 < ((b.n:Nat):Int)
 ·refine ⟨_,_,st_s1 a b c e t m p k mo,?_⟩
  repeat' (refine all_true_cons ?_ ?_)
  all_goals first | exact all_true_nil | (simp only [bq] <;> omega)
 by_cases h_s2:65536 < ((c.n:Nat):Int)
 ·refine ⟨_,_,st_s2 a b c e t m p k mo,?_⟩
  repeat' (refine all_true_cons ?_ ?_)
  all_goals first | exact all_true_nil | (simp only [bq] <;> omega)
 by_cases h_s3:65536 < ((e.n:Nat):Int)
 ·refine ⟨_,_,st_s3 a b c e t m p k mo,?_⟩
  repeat' (refine all_true_cons ?_ ?_)
  all_goals first | exact all_true_nil | (simp only [bq] <;> omega)
 by_cases h_c00:t < 0
 ·refine ⟨_,_,st_c00 a b c e t m p k mo,?_⟩
  repeat' (refine all_true_cons ?_ ?_)
  all_goals first | exact all_true_nil | (simp only [bq] <;> omega)
 by_cases h_c01:4 < t
 ·refine ⟨_,_,st_c01 a b c e t m p k mo,?_⟩
  repeat' (refine all_true_cons ?_ ?_)
  all_goals first | exact all_true_nil | (simp only [bq] <;> omega)
 by_cases h_c10:m < 0
 ·refine ⟨_,_,st_c10 a b c e t m p k mo,?_⟩
  repeat' (refine all_true_cons ?_ ?_)
  all_goals first | exact all_true_nil | (simp only [bq] <;> omega)
 by_cases h_c11:256 < m
 ·refine ⟨_,_,st_c11 a b c e t m p k mo,?_⟩
  repeat' (refine all_true_cons ?_ ?_)
  all_goals first | exact all_true_nil | (simp only [bq] <;> omega)
 by_cases h_c20:p < 0
 ·refine ⟨_,_,st_c20 a b c e t m p k mo,?_⟩
  repeat' (refine all_true_cons ?_ ?_)
  all_goals first | exact all_true_nil | (simp only [bq] <;> omega)
 by_cases h_c21:8 < p
 ·refine ⟨_,_,st_c21 a b c e t m p k mo,?_⟩
  repeat' (refine all_true_cons ?_ ?_)
  all_goals first | exact all_true_nil | (simp only [bq] <;> omega)
 by_cases h_c30:k < 1
 ·refine ⟨_,_,st_c30 a b c e t m p k mo,?_⟩
  repeat' (refine all_true_cons ?_ ?_)
  all_goals first | exact all_true_nil | (simp only [bq] <;> omega)
 by_cases h_c31:1024 < k
 ·refine ⟨_,_,st_c31 a b c e t m p k mo,?_⟩
  repeat' (refine all_true_cons ?_ ?_)
  all_goals first | exact all_true_nil | (simp only [bq] <;> omega)
 have hB:=beg_bytes a b c e 0 a.n 0 b.n 0 c.n 0 e.n (BitVec.ofInt 32 t) (BitVec.ofInt 32 m) p k mo (by omega) (by omega) (by omega) (by omega) (by omega) (by omega) (by omega) (by omega)
 refine ⟨_,_,st_ok a b c e t m p k mo,?_⟩
 have hE:=eqF_of 72 0 fun j hj=>hB j hj
 repeat' (refine all_true_cons ?_ ?_)
 all_goals first | exact all_true_nil | (rw [hE];rfl) | (simp only [bq] <;> omega)
end
section
open Go.ChangeShapes Go.WideShapes Go.ChangeAt Go.RowKit
open Go.Eng Go.Conc
theorem open_c8 [RowAddr] [Co] {H:Type} {enc:TypeId × Value → H} {P:Program} {W:World} (hmi:AllMine W) {t e fuel:Nat} {cs:List Value} {x:DataW H × List MemPlace} (ht:P.underlying t = some (.slice e)) (he:P.underlying e = some (.int .u8)) (hc:P.cellsOf e = 1)
 (hf:DataW.trod enc P W 0 (fun _=>true) true fuel t cs = some x):∃ (v:Value) (l:Vec 8),cs = [v] ∧ SlOk W v (.b8 l):=by
 rcases open_ints ht he hc hf with ⟨hcs,hx⟩ | ⟨a,len,cap,zs,hcs,_,hl,hm,hz,hx,hcell,hwz⟩
 ·exact ⟨_,Vec.of [],hcs,none,0,rfl,Nat.le_refl _,.inl rfl⟩
 simp only [if_true] at hz
 have hn:(Data.b8 (Vec.of ((zs.take len).map (BitVec.ofInt 8)))).len = len:=by
  show ((zs.take len).map (BitVec.ofInt 8)).length = len
  rw [List.length_map,List.length_take];omega
 refine ⟨_,Vec.of ((zs.take len).map (BitVec.ofInt 8)),hcs,some a,cap,by rw [hn],by rw [hn];exact hl,?_⟩
 by_cases hc0:cap = 0
 ·exact .inl hc0
 right
 have h0:=hcell 0 (by omega)
 have hspot:a.spot = none:=by simpa [Addr.add] using World.cell?_spot h0
 have hlt:a.block < W.heap.size:=by have:=cell_lt h0;simpa [Addr.add] using this
 refine ⟨⟨a.block,a.off,cap⟩,by cases a;simp_all [at'],Nat.le_refl _,hlt,by rw [hn];exact hl,fun i y hy=>?_⟩
 simp only [Data.at,Vec.of] at hy
 obtain ⟨b,hb,rfl⟩:=at_map hy
 rw [List.getElem?_map,Option.map_eq_some_iff] at hb
 obtain ⟨z,hz',rfl⟩:=hb
 have hi:i < len:=by have:=(List.getElem?_eq_some_iff.1 hz').1;rw [List.length_take] at this;omega
 have hgz:zs.getD i 0 = z:=by
  have:=getD_of hz'
  simpa [List.getD,hi] using this
 have hci:=hcell i (by omega)
 have e1:(a.add i) = at' a.block (a.off + i):=by
  unfold Addr.add at'
  split
  ·rename_i h0;subst h0;cases a;simp_all
  ·cases a;simp
 rw [e1,hgz] at hci
 refine ⟨_,hci,?_,rfl,.inl (hmi _ hlt)⟩
 rw [← val8 (hwz z (List.mem_of_mem_take (List.mem_of_getElem? hz')))]
 exact .num _
theorem open_arr_sl8 [RowAddr] [Co] {H:Type} {enc:TypeId × Value → H} {P:Program} {W:World} {base n:Nat} (hmi:AllMine W) {t s e:TypeId} {r:Reach} {v:Value} {dd:DataW H} {ps:List MemPlace} (ht:P.underlying t = some (.array n s)) (hs:P.underlying s = some (.slice e)) (he:P.underlying e = some (.int .u8)) (hc:P.cellsOf e = 1) (hcs:P.cellsOf s = 1) (hct:P.cellsOf t = n)
 (hval:Value.okWide P W r base t v) (h:DataW.Trod enc P W 0 (fun _=>true) true t v dd ps) :
 ∃ (x:Nat → Value) (l:Nat → Vec 8),v = .agg ⟨(List.range n).map x⟩ ∧ ∀ i,i < n → SlOk W (x i) (.b8 (l i)):=by
 have hv:∃ cs:Array Value,v = .agg cs:=by
  simp only [Value.okWide,ht] at hval
  obtain ⟨cs,h1,_⟩:=hval
  exact ⟨cs,h1⟩
 obtain ⟨cs,rfl⟩:=hv
 obtain ⟨fuel,hf⟩:=h
 obtain ⟨xs,m,_,_,hl,hxl,hel⟩:=DataW.trod_array ht hf
 have e0:(Value.agg cs).cells.toList = cs.toList:=rfl
 rw [e0,hct] at hl
 rw [e0] at hel
 have hcell:∀ i,∃ p:Value × Vec 8,i < n → cs.toList[i]? = some p.1 ∧ SlOk W p.1 (.b8 p.2):=by
  intro i
  by_cases hi:i < n
  ·have hE:=hel i hi
   rw [hcs,Nat.mul_one,List.getElem?_eq_getElem (by omega)] at hE
   obtain ⟨v,l,e1,e2⟩:=open_c8 hmi hs he hc hE
   refine ⟨(v,l),fun _=>⟨?_,e2⟩⟩
   have e3:((cs.toList.drop i).take 1)[0]? = some v:=by rw [e1];rfl
   simpa using e3
  ·exact ⟨(.bool false,Vec.of []),fun h=>absurd h hi⟩
 refine ⟨fun i=>(Classical.choose (hcell i)).1,fun i=>(Classical.choose (hcell i)).2,?_,fun i hi=>(Classical.choose_spec (hcell i) hi).2⟩
 congr 1
 apply Array.ext'
 apply List.ext_getElem?
 intro i
 rcases Nat.lt_or_ge i n with hi | hi
 ·rw [(Classical.choose_spec (hcell i) hi).1,List.getElem?_map,List.getElem?_range hi]
  rfl
 ·rw [List.getElem?_eq_none (by omega),List.getElem?_eq_none (by simpa using hi)]
section
variable {m0:Machine}
theorem walk4 [RowAddr] {W0:World} (hL:laidMetH Tryd.prog laidR W0) (hmi:@AllMine (coMain Tryd.prog m0 36) W0) (N:Int) {x:Nat → Value} (l:Nat → Vec 8) (z:Nat → Int) (w1:letI:=coMain Tryd.prog m0 36;∀ i,i < 4 → SlOk W0 (x i) (Eng.Data.b8 (l i))) :
 @CallsJ (coMain Tryd.prog m0 36) Tryd.prog 4 #[.int .i64 N,.agg ⟨(List.range 4).map x⟩,.agg ⟨(List.range 4).map fun i=>.int .i64 (z i)⟩] W0 fun e W'=>e = .returned (.bool true) ∧ Still W0 W':=by
 letI:=coMain Tryd.prog m0 36
 have h6:SpecOk Tryd.prog noGlob 6 c6.spec:=c6_ok (c15_ok (c24_ok c36_ok) (show (15:Nat) ≠ 36 by decide)) keys_apart
 have hb:=goB_ok (specs4_ok h6) (no_loops specs4)
 have hx:∀ p ∈ [(x 0,Eng.Data.b8 (l 0)),(x 1,Eng.Data.b8 (l 1)),(x 2,Eng.Data.b8 (l 2)),(x 3,Eng.Data.b8 (l 3))],SlOk W0 p.1 p.2:=ss_cons (w1 0 (by decide)) (ss_cons (w1 1 (by decide)) (ss_cons (w1 2 (by decide)) (ss_cons (w1 3 (by decide)) ss_nil)))
 obtain ⟨dec,cs,hrun,hcs⟩:=law4 (l 0) (l 1) (l 2) (l 3) (z 0) (z 1) (z 2) (z 3) N
 refine law_runG hb [(x 0,Eng.Data.b8 (l 0)),(x 1,Eng.Data.b8 (l 1)),(x 2,Eng.Data.b8 (l 2)),(x 3,Eng.Data.b8 (l 3))] (fun g x hg=>?_) hmi hx hrun hcs fun β h=>LRel.cons (rel_int .i64 N) (LRel.cons (rel_arr (n:=4) (x:=fun i=>.ref (.sl i (.c 0) (.s (l i).n) none)) fun i hi=>?_) (LRel.cons (rel_arr (n:=4) (x:=fun i=>.num (.int .i64 (.s (z i)))) fun i _=>rel_int .i64 (z i)) (LRel.nil β)))
 ·obtain ⟨q1,q2⟩:=glob_ok hL g x hg
  refine ⟨q1,fun i y hy=>?_⟩
  obtain ⟨u,e1,e2⟩:=q2 i y hy
  exact ⟨u,e1,e2,(by unfold gAt;split <;> rfl),.inl (hmi _ (cell_lt e1))⟩
 ·have:i = 0 ∨ i = 1 ∨ i = 2 ∨ i = 3:=by omega
  rcases this with rfl | rfl | rfl | rfl
  ·exact h 0 _ _ rfl
  ·exact h 1 _ _ rfl
  ·exact h 2 _ _ rfl
  ·exact h 3 _ _ rfl
end
theorem res4:Tryd.f4.results = #[.tmp 6]:=by kernel_rfl
theorem res_events {fn:Func} {t:Tmp} (h:fn.results = #[.tmp t]) (tmps:Array Value) (P:Program) (w:World):(results fn tmps).events P w #[] = #[]:=by
 simp [results,h]
theorem last_step {fr:Frame} {v:Value} {w:World} (hf:fr.fn = 4) (hm:fr.mode = .returning) (hd:fr.defers = []) (hk:fr.kind = .normal)
 (hr:(results Tryd.f4 fr.tmps).run Tryd.prog w = .ok v w):stepG Tryd.prog true (G fr []) w = .ended (.done v) w #[]:=by
 have he:=res_events res4 fr.tmps Tryd.prog w
 have h0:seen Tryd.prog fr.fn ((results Tryd.f4 fr.tmps).events Tryd.prog w #[]) = #[]:=by rw [he];rfl
 have hfn:Tryd.prog.funcs[fr.fn]? = some Tryd.f4:=by rw [hf];exact Tryd.func4
 have hi:¬ 2 = fr.fn:=by rw [hf];decide
 simp [G,stepG,unwind,doReturn,hm,hd,hk,hfn,hr,hi,GStep.after,h0]
theorem mine_all (g:Goroutine) (W:World) (F:FuncId):@AllMine (coMain Tryd.prog (solo g W) F) W:=fun c hc hb=>absurd hb.1 (Nat.not_le.2 hc)
theorem good_run {args:Array Value} {W:World} {Post:Value → World → Prop} (hP:∀ W',Still W W' → Post (.bool true) W')
 (h:@CallsJ (coMain Tryd.prog (solo (G (Frame.enter Tryd.prog 4 args .normal) []) W) 36) Tryd.prog 4 args W fun e W'=>e = .returned (.bool true) ∧ Still W W') :
 ∃ M last o w' t',runNT Tryd.prog (M + 1) (solo (G (Frame.enter Tryd.prog 4 args .normal) []) W) #[] = (.ended o w',t') ∧ runN Tryd.prog M (solo (G (Frame.enter Tryd.prog 4 args .normal) []) W) = .next last ∧
  step Tryd.prog last = .ended o w' ∧ Conc.Good Tryd.prog Post last o w' t':=by
 letI:=coMain Tryd.prog (solo (G (Frame.enter Tryd.prog 4 args .normal) []) W) 36
 have hm:=mine_all (G (Frame.enter Tryd.prog 4 args .normal) []) W 36
 refine ends (m0:=solo (G (Frame.enter Tryd.prog 4 args .normal) []) W) (F:=36) (h [] (AtFin Tryd.prog Post) fun v w' hR=>?_) (Frm.first _ _)
 obtain ⟨hv,hs⟩:=hR
 injection hv with hv
 subst hv
 intro fr hl
 refine .stop fun w₁ h₁=>⟨rfl,.bool true,#[],?_,rfl,hP _ ?_⟩
 ·obtain ⟨l1,l2,l3,l4,fn,l5,l6⟩:=hl
  obtain rfl:fn = Tryd.f4:=Option.some.inj (l5.symm.trans Tryd.func4)
  exact last_step l1 l2 l3 l4 (runQ_ok _ (l6 w₁ h₁)).1
 ·obtain ⟨s1,s2,s3,s4⟩:=hs
  exact ⟨h₁.os.trans s1,h₁.output.trans s2,Nat.le_trans s3 h₁.size,fun c hc=>(h₁.mine c (Nat.lt_of_lt_of_le hc s3) (hm c hc)).trans (s4 c hc)⟩
theorem own:ownKnob Tryd.prog.godebug = none:=by kernel_rfl
theorem laidOut:laidOutB Tryd.prog = true:=by kernel_rfl
theorem read3:Tryd.prog.readableRec 3 = true ∧ 3 < Tryd.prog.types.size:=⟨by kernel_rfl,of_decide_eq_true (by kernel_rfl)⟩
theorem read33:Tryd.prog.readableRec 33 = true ∧ 33 < Tryd.prog.types.size:=⟨by kernel_rfl,of_decide_eq_true (by kernel_rfl)⟩
theorem read34:Tryd.prog.readableRec 34 = true ∧ 34 < Tryd.prog.types.size:=⟨by kernel_rfl,of_decide_eq_true (by kernel_rfl)⟩
theorem c_3:Tryd.prog.cellsOf 3 = 1:=by kernel_rfl
theorem c_22:Tryd.prog.cellsOf 22 = 1:=by kernel_rfl
theorem c_33:Tryd.prog.cellsOf 33 = 4:=by kernel_rfl
theorem c_34:Tryd.prog.cellsOf 34 = 4:=by kernel_rfl
set_option maxRecDepth 100000 in
theorem contract (H:Type) (enc:TypeId × Value → H) (W:World) (base:Nat) (args:Array Value) (ds gs:List (DataW H)) (before:List MemPlace)
 (hval:∀ (j:Nat) t v,Tryd.f4.params[j]? = some t → args[j]? = some v → Value.okWide Tryd.prog W .any base t v)
 (hL:laidMetH Tryd.prog laidR W)
 (hW:DataW.Whole enc Tryd.prog Tryd.f4.params.toList Rows.fnArgon2StartSpec.vars false W args.toList ds gs before) :
 ∃ M last o w' t',runNT Tryd.prog (M + 1) (solo (G (Frame.enter Tryd.prog 4 args .normal) []) W) #[] = (.ended o w',t') ∧ runN Tryd.prog M (solo (G (Frame.enter Tryd.prog 4 args .normal) []) W) = .next last ∧
  step Tryd.prog last = .ended o w' ∧ Conc.Good Tryd.prog (fun v W'=>Rows.fnArgon2StartSpec.post enc Tryd.prog Tryd.f4 false true false false W args v W') last o w' t':=by
 have hW':=hW
 obtain ⟨p,q,hA0,hV,rfl,hfz,hnd⟩:=hW
 have hA:DataW.TrodAll enc Tryd.prog W 0 (fun _=>true) true Tryd.f4.params.toList args.toList ds p:=hA0
 rw [Tryd.params4] at hA hval
 obtain ⟨v0,vs0,d0,ds0,p0,q0,hargs,rfl,rfl,h0,r0⟩:=trodAll_cons hA
 obtain ⟨v1,vs1,d1,ds1,p1,q1,rfl,rfl,rfl,h1,r1⟩:=trodAll_cons r0
 obtain ⟨v2,vs2,d2,ds2,p2,q2,rfl,rfl,rfl,h2,r2⟩:=trodAll_cons r1
 obtain ⟨rfl,rfl,rfl⟩:=trodAll_nil r2
 obtain rfl:args = #[v0,v1,v2]:=by cases args;simp_all
 letI:RowAddr:=⟨fun _=>(0,0)⟩
 obtain ⟨n0,rfl,rfl,rfl,w0⟩:=open_int Tryd.underlying3 (hval 0 3 v0 rfl rfl) h0
 letI:=coMain Tryd.prog (solo (G (Frame.enter Tryd.prog 4 #[.int .i64 n0,v1,v2] .normal) []) W) 36
 obtain ⟨z,rfl,_⟩:=open_arr Tryd.underlying34 Tryd.underlying3 c_3 c_34 (hval 2 34 v2 rfl rfl) h2
 obtain ⟨x,l,rfl,w1⟩:=open_arr_sl8 (mine_all _ W 36) Tryd.underlying33 Tryd.underlying22 Tryd.underlying5 c_5 c_22 c_33 (hval 1 33 v1 rfl rfl) h1
 refine good_run (fun W' hs=>?_) (walk4 hL (mine_all _ W 36) n0 l z w1)
 exact post_of_still (tb:=4) hW' rfl rfl laidOut (by
  intro t ht
  rw [Tryd.params4] at ht
  have:t = 3 ∨ t = 33 ∨ t = 34:=by simpa using ht
  rcases this with rfl | rfl | rfl
  ·exact read3
  ·exact read33
  ·exact read34) (by kernel_rfl) Tryd.underlying4 hs
set_option maxRecDepth 100000 in
theorem lifted (os:Os) (started:os.Started) (H:Type) (enc:TypeId × Value → H) :
 ReturnsInLeavingWide {} Tryd.checked os 4 .any (fun w args=>(Rows.fnArgon2StartSpec.pre enc Tryd.prog Tryd.f4 [] false w args ∧ laidMetH Tryd.prog laidR w) ∧ sizedMet enc Tryd.prog Tryd.f4 (OpenSpec.ofChange Rows.fnArgon2StartSpec) false w args)
  (Rows.fnArgon2StartSpec.post enc Tryd.prog Tryd.f4 false true false false):=by
 refine returnsInLeavingWide_of_good (C:=Tryd.checked) own started
  (ChangeSpec.witness_shaped (enc:=enc) (C:=Tryd.checked) (os:=os) (X:=fun w _=>laidMetH Tryd.prog laidR w) false (laidWorld os) #[.int .i64 0,.agg #[.slice none 0 0,.slice none 0 0,.slice none 0 0,.slice none 0 0],.agg #[.int .i64 0,.int .i64 0,.int .i64 0,.int .i64 0]] 8 rfl (World.shaped_of_RefB (by kernel_rfl) (by kernel_rfl)) (by kernel_rfl) (by kernel_rfl) (by kernel_rfl) (laidWorld_met os _)) ?_
 intro w tape i _ _ _ hok hpre _
 obtain ⟨_,_,_,fn',hfn',_,_,_,_,hval⟩:=hok
 have e:fn' = Tryd.f4:=Option.some.inj (hfn'.symm.trans Tryd.func4)
 subst e
 obtain ⟨⟨⟨ds,gs,before,hw,hc⟩,hx⟩,hz⟩:=hpre
 have hw':=DataW.Whole.of_heap (w':=w.forCall tape i) (by rfl) hw
 obtain ⟨M,last,o,w',t',h1,h2,h3,h4⟩:=contract H enc (w.forCall tape i) w.heap.size i.args ds gs before hval (hx.of_heap (by rfl)) hw'
 exact ⟨M,last,o,w',t',h1,h2,h3,h4.mono fun v hp=>ChangeSpec.post_blind hp⟩
theorem holds:Rows.FnArgon2StartSaid:=
 OpenClaim.holds_of_wide_leaving 4 Tryd.f4 rfl rfl rfl rfl rfl rfl rfl ⟨rfl,rfl,rfl,rfl,rfl⟩ rfl rfl rfl rfl rfl (by kernel_rfl) Tryd.func4 (by kernel_rfl)
  (of_decide_eq_true (by kernel_rfl)) (by unfold Func.isWrapper;first | (rw [if_pos (by decide +kernel)];kernel_rfl) | (rw [if_neg (by decide +kernel)];exact ⟨rfl,rfl⟩))
  (fun os started H enc _=>lifted os started H enc)
theorem card_holds:Rows.FnArgon2StartCardSaid:=by
 have hl:∀ f fn,Tryd.prog.funcNamed "pub-wardkeep/laws.FnArgon2Start" = some f → Tryd.prog.funcs[f]? = some fn → false = Tryd.prog.looks [] ∧ ∀ (j:Nat) t,fn.params[j]? = some t → Tryd.prog.wantsStandIn t = false:=fun f fn hf hfn=>by
  obtain rfl:f = 4:=Option.some.inj ((show Tryd.prog.funcNamed "pub-wardkeep/laws.FnArgon2Start" = some 4 by kernel_rfl).symm.trans hf) |>.symm
  obtain rfl:fn = Tryd.f4:=(Option.some.inj (Tryd.func4.symm.trans hfn)).symm
  exact ⟨by kernel_rfl,fun j t ht=>by
   rw [Tryd.params4] at ht
   have h3:t = 3 ∨ t = 33 ∨ t = 34:=by
    rcases j with _ | _ | _ | j
    ·left;simpa using ht.symm
    ·right;left;simpa using ht.symm
    ·right;right;simpa using ht.symm
    ·simp at ht
   rcases h3 with rfl | rfl | rfl
   ·exact (show Tryd.prog.wantsStandIn 3 = false by kernel_rfl)
   ·exact (show Tryd.prog.wantsStandIn 33 = false by kernel_rfl)
   ·exact (show Tryd.prog.wantsStandIn 34 = false by kernel_rfl)⟩
 have hn:=Claim7.tied_new_at .later [.sentinel,.sentinel,.data,.data] true (Claim7.new_of_sixth holds (true,"a376baf0e985b1e0bc4c86f682516aaffaf348d77de1c1b6d93165364309aef8") false rfl ⟨rfl,rfl⟩ (by kernel_rfl) (by kernel_rfl) hl) (by kernel_rfl)
 exact ⟨hn,(fun _ h=>by cases h),fnArgon2Start_row_tie,(fun h=>by cases h),by kernel_rfl⟩
end
end Go.Proofs.YtineimjmnbjdlaaDoor

/- An interpreter of the model's code over abstract values, proved sound, and a walk in company by it: part of the proof of FnArgon2Start. No condition. -/
import Derived.Test.YtineimjmnbjdlaaDoorYE
set_option linter.unusedVariables false
set_option linter.unusedSectionVars false
set_option linter.unusedSimpArgs false
namespace Go.Proofs.YtineimjmnbjdlaaDoor
section
open Go.Eng
variable [RowAddr] [Co] [SeatCo]
structure H8 where
 (x0 x1 x2 x3 x4 x5 x6 x7:BitVec 64)
structure Q4 where
 (a b c d:BitVec 64)
structure V16 where
 (x0 x1 x2 x3 x4 x5 x6 x7 x8 x9 x10 x11 x12 x13 x14 x15:BitVec 64)
def lw8 (a b c d e f g h:BitVec 8):BitVec 64:=a.setWidth 64 ||| b.setWidth 64 <<< 8 ||| c.setWidth 64 <<< 16 ||| d.setWidth 64 <<< 24 ||| e.setWidth 64 <<< 32 ||| f.setWidth 64 <<< 40 ||| g.setWidth 64 <<< 48 ||| h.setWidth 64 <<< 56
def wrd (v:Vec 8) (o:Nat):Vec 64:=Vec.of [lw8 (v.l.getD (o + 0) 0#8) (v.l.getD (o + 1) 0#8) (v.l.getD (o + 2) 0#8) (v.l.getD (o + 3) 0#8) (v.l.getD (o + 4) 0#8) (v.l.getD (o + 5) 0#8) (v.l.getD (o + 6) 0#8) (v.l.getD (o + 7) 0#8),lw8 (v.l.getD (o + 8) 0#8) (v.l.getD (o + 9) 0#8) (v.l.getD (o + 10) 0#8) (v.l.getD (o + 11) 0#8) (v.l.getD (o + 12) 0#8) (v.l.getD (o + 13) 0#8) (v.l.getD (o + 14) 0#8) (v.l.getD (o + 15) 0#8),lw8 (v.l.getD (o + 16) 0#8) (v.l.getD (o + 17) 0#8) (v.l.getD (o + 18) 0#8) (v.l.getD (o + 19) 0#8) (v.l.getD (o + 20) 0#8) (v.l.getD (o + 21) 0#8) (v.l.getD (o + 22) 0#8) (v.l.getD (o + 23) 0#8),lw8 (v.l.getD (o + 24) 0#8) (v.l.getD (o + 25) 0#8) (v.l.getD (o + 26) 0#8) (v.l.getD (o + 27) 0#8) (v.l.getD (o + 28) 0#8) (v.l.getD (o + 29) 0#8) (v.l.getD (o + 30) 0#8) (v.l.getD (o + 31) 0#8),lw8 (v.l.getD (o + 32) 0#8) (v.l.getD (o + 33) 0#8) (v.l.getD (o + 34) 0#8) (v.l.getD (o + 35) 0#8) (v.l.getD (o + 36) 0#8) (v.l.getD (o + 37) 0#8) (v.l.getD (o + 38) 0#8) (v.l.getD (o + 39) 0#8),lw8 (v.l.getD (o + 40) 0#8) (v.l.getD (o + 41) 0#8) (v.l.getD (o + 42) 0#8) (v.l.getD (o + 43) 0#8) (v.l.getD (o + 44) 0#8) (v.l.getD (o + 45) 0#8) (v.l.getD (o + 46) 0#8) (v.l.getD (o + 47) 0#8),lw8 (v.l.getD (o + 48) 0#8) (v.l.getD (o + 49) 0#8) (v.l.getD (o + 50) 0#8) (v.l.getD (o + 51) 0#8) (v.l.getD (o + 52) 0#8) (v.l.getD (o + 53) 0#8) (v.l.getD (o + 54) 0#8) (v.l.getD (o + 55) 0#8),lw8 (v.l.getD (o + 56) 0#8) (v.l.getD (o + 57) 0#8) (v.l.getD (o + 58) 0#8) (v.l.getD (o + 59) 0#8) (v.l.getD (o + 60) 0#8) (v.l.getD (o + 61) 0#8) (v.l.getD (o + 62) 0#8) (v.l.getD (o + 63) 0#8),lw8 (v.l.getD (o + 64) 0#8) (v.l.getD (o + 65) 0#8) (v.l.getD (o + 66) 0#8) (v.l.getD (o + 67) 0#8) (v.l.getD (o + 68) 0#8) (v.l.getD (o + 69) 0#8) (v.l.getD (o + 70) 0#8) (v.l.getD (o + 71) 0#8),lw8 (v.l.getD (o + 72) 0#8) (v.l.getD (o + 73) 0#8) (v.l.getD (o + 74) 0#8) (v.l.getD (o + 75) 0#8) (v.l.getD (o + 76) 0#8) (v.l.getD (o + 77) 0#8) (v.l.getD (o + 78) 0#8) (v.l.getD (o + 79) 0#8),lw8 (v.l.getD (o + 80) 0#8) (v.l.getD (o + 81) 0#8) (v.l.getD (o + 82) 0#8) (v.l.getD (o + 83) 0#8) (v.l.getD (o + 84) 0#8) (v.l.getD (o + 85) 0#8) (v.l.getD (o + 86) 0#8) (v.l.getD (o + 87) 0#8),lw8 (v.l.getD (o + 88) 0#8) (v.l.getD (o + 89) 0#8) (v.l.getD (o + 90) 0#8) (v.l.getD (o + 91) 0#8) (v.l.getD (o + 92) 0#8) (v.l.getD (o + 93) 0#8) (v.l.getD (o + 94) 0#8) (v.l.getD (o + 95) 0#8),lw8 (v.l.getD (o + 96) 0#8) (v.l.getD (o + 97) 0#8) (v.l.getD (o + 98) 0#8) (v.l.getD (o + 99) 0#8) (v.l.getD (o + 100) 0#8) (v.l.getD (o + 101) 0#8) (v.l.getD (o + 102) 0#8) (v.l.getD (o + 103) 0#8),lw8 (v.l.getD (o + 104) 0#8) (v.l.getD (o + 105) 0#8) (v.l.getD (o + 106) 0#8) (v.l.getD (o + 107) 0#8) (v.l.getD (o + 108) 0#8) (v.l.getD (o + 109) 0#8) (v.l.getD (o + 110) 0#8) (v.l.getD (o + 111) 0#8),lw8 (v.l.getD (o + 112) 0#8) (v.l.getD (o + 113) 0#8) (v.l.getD (o + 114) 0#8) (v.l.getD (o + 115) 0#8) (v.l.getD (o + 116) 0#8) (v.l.getD (o + 117) 0#8) (v.l.getD (o + 118) 0#8) (v.l.getD (o + 119) 0#8),lw8 (v.l.getD (o + 120) 0#8) (v.l.getD (o + 121) 0#8) (v.l.getD (o + 122) 0#8) (v.l.getD (o + 123) 0#8) (v.l.getD (o + 124) 0#8) (v.l.getD (o + 125) 0#8) (v.l.getD (o + 126) 0#8) (v.l.getD (o + 127) 0#8)]
def rl64 (x:BitVec 64) (n:Nat):BitVec 64:=x <<< n ||| x >>> (64 - n)
def qC (a b c d x y:BitVec 64):Q4:=
 let a1:=a + x + b
 let d1:=rl64 (d ^^^ a1) 32
 let c1:=c + d1
 let b1:=rl64 (b ^^^ c1) 40
 let a2:=a1 + y + b1
 let d2:=rl64 (d1 ^^^ a2) 48
 let c2:=c1 + d2
 ⟨a2,rl64 (b1 ^^^ c2) 1,c2,d2⟩
def rnd (q:BitVec 64 → BitVec 64 → BitVec 64 → BitVec 64 → BitVec 64 → BitVec 64 → Q4) (m:Vec 64) (s:List Nat) (v:V16):V16:=
 match v,s with
 | ⟨v0,v1,v2,v3,v4,v5,v6,v7,v8,v9,v10,v11,v12,v13,v14,v15⟩,[s0,s1,s2,s3,s4,s5,s6,s7,s8,s9,s10,s11,s12,s13,s14,s15]=>
  let A:=q v0 v4 v8 v12 (m.l.getD s0 0#64) (m.l.getD s4 0#64)
  let B:=q v1 v5 v9 v13 (m.l.getD s1 0#64) (m.l.getD s5 0#64)
  let C:=q v2 v6 v10 v14 (m.l.getD s2 0#64) (m.l.getD s6 0#64)
  let D:=q v3 v7 v11 v15 (m.l.getD s3 0#64) (m.l.getD s7 0#64)
  let E:=q A.a B.b C.c D.d (m.l.getD s8 0#64) (m.l.getD s12 0#64)
  let F:=q B.a C.b D.c A.d (m.l.getD s9 0#64) (m.l.getD s13 0#64)
  let G:=q C.a D.b A.c B.d (m.l.getD s10 0#64) (m.l.getD s14 0#64)
  let H:=q D.a A.b B.c C.d (m.l.getD s11 0#64) (m.l.getD s15 0#64)
  ⟨E.a,F.a,G.a,H.a,H.b,E.b,F.b,G.b,G.c,H.c,E.c,F.c,F.d,G.d,H.d,E.d⟩
 | v,_=>v
def rnds (q:BitVec 64 → BitVec 64 → BitVec 64 → BitVec 64 → BitVec 64 → BitVec 64 → Q4) (m:Vec 64):List (List Nat) → V16 → V16
 | [],v=>v
 | s :: r,v=>rnds q m r (rnd q m s v)
def tabB:List (List Nat):=[[0,2,4,6,1,3,5,7,8,10,12,14,9,11,13,15],[14,4,9,13,10,8,15,6,1,0,11,5,12,2,7,3],[11,12,5,15,8,0,2,13,10,3,7,9,14,6,1,4],[7,3,13,11,9,1,12,14,2,5,4,15,6,10,0,8],[9,5,2,10,0,7,4,15,14,11,6,3,1,12,8,13],[2,6,0,8,12,10,11,3,4,7,15,1,13,5,14,9],[12,1,14,4,5,15,13,10,0,6,9,8,7,3,2,11],[13,7,12,3,11,14,1,9,5,15,8,2,0,4,6,10],[6,14,11,0,15,9,3,8,12,13,1,10,2,7,4,5],[10,8,7,1,2,4,6,5,15,9,3,13,11,14,12,0],[0,2,4,6,1,3,5,7,8,10,12,14,9,11,13,15],[14,4,9,13,10,8,15,6,1,0,11,5,12,2,7,3]]
def b2q (q:BitVec 64 → BitVec 64 → BitVec 64 → BitVec 64 → BitVec 64 → BitVec 64 → Q4) (h:H8) (c0 c1 fl:BitVec 64) (m:Vec 64):H8:=
 let L:=rnds q m tabB ⟨h.x0,h.x1,h.x2,h.x3,h.x4,h.x5,h.x6,h.x7,7640891576956012808#64,13503953896175478587#64,4354685564936845355#64,11912009170470909681#64,5840696475078001361#64 ^^^ c0,11170449401992604703#64 ^^^ c1,2270897969802886507#64 ^^^ fl,6620516959819538809#64⟩
 ⟨h.x0 ^^^ (L.x0 ^^^ L.x8),h.x1 ^^^ (L.x1 ^^^ L.x9),h.x2 ^^^ (L.x2 ^^^ L.x10),h.x3 ^^^ (L.x3 ^^^ L.x11),h.x4 ^^^ (L.x4 ^^^ L.x12),h.x5 ^^^ (L.x5 ^^^ L.x13),h.x6 ^^^ (L.x6 ^^^ L.x14),h.x7 ^^^ (L.x7 ^^^ L.x15)⟩
def b2 (h:H8) (c0 c1 fl:BitVec 64) (m:Vec 64):H8:=b2q qC h c0 c1 fl m
def c2c (c0 c1:BitVec 64):List AV:=[.num (.w64 c0),.num (.w64 c1)]
def h8c (h:H8):List AV:=[.num (.w64 h.x0),.num (.w64 h.x1),.num (.w64 h.x2),.num (.w64 h.x3),.num (.w64 h.x4),.num (.w64 h.x5),.num (.w64 h.x6),.num (.w64 h.x7)]
def cpx (x:Vec 8):Vec 8:=Vec.of ((List.range 128).map fun i=>x.l.getD i 0#8)
def cy (c0 c1:BitVec 64):BitVec 64:=if (c0 + 128#64).toNat < (128#64).toNat then c1 + 1#64 else c1
structure kFD where
 h:H8
 c0:BitVec 64
 c1:BitVec 64
 b:Vec 8
def kF_rd (a:List AV) (K:List Blk):Option kFD:=
 match a with
 | [(.ref (.ptr 0 (.c 0))),(.ref (.ptr 1 (.c 0))),(.num (.int .u64 (.c 18446744073709551615))),(.ref (.sl 2 (.c 0) (.c 128) none))]=>
  match K with
  | [⟨(.gen [(.num (.w64 h0)),(.num (.w64 h1)),(.num (.w64 h2)),(.num (.w64 h3)),(.num (.w64 h4)),(.num (.w64 h5)),(.num (.w64 h6)),(.num (.w64 h7))]),.own⟩,⟨(.gen [(.num (.w64 c0)),(.num (.w64 c1))]),.own⟩,⟨(.gen xs_b),.own⟩]=>
   (match rd8 128 xs_b with
   | some b=>some ⟨⟨h0,h1,h2,h3,h4,h5,h6,h7⟩,c0,c1,b⟩
   | none=>none)
  | _=>none
 | _=>none
def kF:Ct kFD where
 pat:=[(.ptr 0 (.c 0)),(.ptr 1 (.c 0)),(.int .u64 (.c 18446744073709551615)),(.sl 2 (.c 0) (.c 128) none)]
 patH:=[⟨(.gen [(.w64 0#64),(.w64 0#64),(.w64 0#64),(.w64 0#64),(.w64 0#64),(.w64 0#64),(.w64 0#64),(.w64 0#64)]),.own⟩,⟨(.gen [(.w64 0#64),(.w64 0#64)]),.own⟩,⟨(.gen (List.replicate 128 (.w8 0#8))),.own⟩]
 read:=kF_rd
 args:=fun ⟨_,_,_,_⟩=>[(.ptr 0 (.c 0)),(.ptr 1 (.c 0)),(.int .u64 (.c 18446744073709551615)),(.sl 2 (.c 0) (.c 128) none)]
 heap:=fun ⟨h,c0,c1,b⟩=>[⟨(.gen [(.w64 h.x0),(.w64 h.x1),(.w64 h.x2),(.w64 h.x3),(.w64 h.x4),(.w64 h.x5),(.w64 h.x6),(.w64 h.x7)]),.own⟩,⟨(.gen [(.w64 c0),(.w64 c1)]),.own⟩,⟨(.gen (c8v b 128)),.own⟩]
 out:=fun ⟨h,c0,c1,b⟩=>[⟨(.gen (h8c (b2 h (c0 + 128#64) (cy c0 c1) 18446744073709551615#64 (wrd b 0)))),.own⟩,⟨(.gen (c2c (c0 + 128#64) (cy c0 c1))),.own⟩,⟨(.gen (c8v b 128)),.own⟩]
 val:=fun ⟨_,_,_,_⟩=>(.tup [])
 good:=fun ⟨_,_,_,_⟩=>decide (True)
set_option maxRecDepth 100000 in
theorem kF_read (a:List AV) (K:List Blk) (d:kFD) (h:kF.read a K = some d):a = kF.args d ∧ K = kF.heap d:=by
 replace h:kF_rd a K = some d:=h
 unfold kF_rd at h
 split at h
 case h_2=>cases h
 split at h
 case h_2=>cases h
 split at h
 case h_2=>cases h
 rename_i hr0
 obtain ⟨rfl,_⟩:=rd8_eq hr0
 injection h with h;subst h
 exact ⟨rfl,rfl⟩
theorem rF0 (h:H8) (c0 c1:BitVec 64) (b:Vec 8):endsAs (kF.heap ⟨h,c0,c1,b⟩).length (some [0,1,2]) [⟨.gen (h8c (b2 h (c0 + 128#64) c1 18446744073709551615#64 (wrd b 0))),.own⟩,⟨.gen (c2c (c0 + 128#64) c1),.own⟩,⟨.gen (c8v b 128),.own⟩] (.tup []) (goB noSpec noLoop 111 (kF.args ⟨h,c0,c1,b⟩) ⟨kF.heap ⟨h,c0,c1,b⟩,big,[false],[]⟩) = some ([⟨.gen (h8c (b2 h (c0 + 128#64) c1 18446744073709551615#64 (wrd b 0))),.own⟩,⟨.gen (c2c (c0 + 128#64) c1),.own⟩,⟨.gen (c8v b 128),.own⟩],(.tup []),[(decide (((c0 + (128#64))).toNat < ((128#64)).toNat) == false)]):=by kernel_rfl
theorem rF1 (h:H8) (c0 c1:BitVec 64) (b:Vec 8):endsAs (kF.heap ⟨h,c0,c1,b⟩).length (some [0,1,2]) [⟨.gen (h8c (b2 h (c0 + 128#64) (c1 + 1#64) 18446744073709551615#64 (wrd b 0))),.own⟩,⟨.gen (c2c (c0 + 128#64) (c1 + 1#64)),.own⟩,⟨.gen (c8v b 128),.own⟩] (.tup []) (goB noSpec noLoop 111 (kF.args ⟨h,c0,c1,b⟩) ⟨kF.heap ⟨h,c0,c1,b⟩,big,[true],[]⟩) = some ([⟨.gen (h8c (b2 h (c0 + 128#64) (c1 + 1#64) 18446744073709551615#64 (wrd b 0))),.own⟩,⟨.gen (c2c (c0 + 128#64) (c1 + 1#64)),.own⟩,⟨.gen (c8v b 128),.own⟩],(.tup []),[(decide (((c0 + (128#64))).toNat < ((128#64)).toNat) == true)]):=by kernel_rfl
theorem kF_ok:SpecOk Tryd.prog noGlob 111 kF.spec:=by
 refine kF.ok (goB_ok no_specs (no_loops _)) kF_read ?_
 rintro ⟨h,c0,c1,b⟩ hg
 by_cases hc:(c0 + 128#64).toNat < (128#64).toNat
 ·have eo:kF.out ⟨h,c0,c1,b⟩ = ([⟨.gen (h8c (b2 h (c0 + 128#64) (c1 + 1#64) 18446744073709551615#64 (wrd b 0))),.own⟩,⟨.gen (c2c (c0 + 128#64) (c1 + 1#64)),.own⟩,⟨.gen (c8v b 128),.own⟩]:List Blk):=by
   show ([⟨.gen (h8c (b2 h (c0 + 128#64) (cy c0 c1) 18446744073709551615#64 (wrd b 0))),.own⟩,⟨.gen (c2c (c0 + 128#64) (cy c0 c1)),.own⟩,⟨.gen (c8v b 128),.own⟩]:List Blk) = _
   unfold cy
   rw [if_pos hc]
  rw [eo]
  refine ⟨[true],some [0,1,2],_,rF1 h c0 c1 b,?_⟩
  repeat' (refine all_true_cons ?_ ?_)
  all_goals first | exact all_true_nil | rfl | (simp only [beq_iff_eq,beq_true,beq_false,Bool.not_eq_true',decide_eq_true_eq,decide_eq_false_iff_not] <;> exact hc)
 ·have eo:kF.out ⟨h,c0,c1,b⟩ = ([⟨.gen (h8c (b2 h (c0 + 128#64) c1 18446744073709551615#64 (wrd b 0))),.own⟩,⟨.gen (c2c (c0 + 128#64) c1),.own⟩,⟨.gen (c8v b 128),.own⟩]:List Blk):=by
   show ([⟨.gen (h8c (b2 h (c0 + 128#64) (cy c0 c1) 18446744073709551615#64 (wrd b 0))),.own⟩,⟨.gen (c2c (c0 + 128#64) (cy c0 c1)),.own⟩,⟨.gen (c8v b 128),.own⟩]:List Blk) = _
   unfold cy
   rw [if_neg hc]
  rw [eo]
  refine ⟨[false],some [0,1,2],_,rF0 h c0 c1 b,?_⟩
  repeat' (refine all_true_cons ?_ ?_)
  all_goals first | exact all_true_nil | rfl | (simp only [beq_iff_eq,beq_true,beq_false,Bool.not_eq_true',decide_eq_true_eq,decide_eq_false_iff_not] <;> exact hc)
def dgc (h:H8) (c0 c1:BitVec 64) (sz:Int) (xb:Vec 8) (nx:Int) (kb:Vec 8):List AV:=h8c h ++ [.num (.w64 c0),.num (.w64 c1),.num (.int .i64 (.s sz))] ++ c8v xb 128 ++ [.num (.int .i64 (.s nx))] ++ c8v kb 128 ++ [.num (.int .i64 (.c 0))]
structure kSD where
 h:H8
 c0:BitVec 64
 c1:BitVec 64
 sz:Int
 xb:Vec 8
 nx:Int
 kb:Vec 8
def kS_rd (a:List AV) (K:List Blk):Option kSD:=
 match a with
 | [(.ref (.ptr 0 (.c 0))),(.ref (.ptr 0 (.c 8))),(.num (.int .u64 (.c 0))),(.ref (.sl 0 (.c 11) (.c 128) none))]=>
  match K with
  | [⟨(.gen ((.num (.w64 h0)) :: (.num (.w64 h1)) :: (.num (.w64 h2)) :: (.num (.w64 h3)) :: (.num (.w64 h4)) :: (.num (.w64 h5)) :: (.num (.w64 h6)) :: (.num (.w64 h7)) :: (.num (.w64 c0)) :: (.num (.w64 c1)) :: (.num (.int .i64 (.s sz))) :: ys_xb)),.own⟩]=>
   (match rd8 128 (ys_xb.take 128),ys_xb.drop 128 with
   | some xb,((.num (.int .i64 (.s nx))) :: ys_kb)=>
   (match rd8 128 (ys_kb.take 128),ys_kb.drop 128 with
   | some kb,[(.num (.int .i64 (.c 0)))]=>some ⟨⟨h0,h1,h2,h3,h4,h5,h6,h7⟩,c0,c1,sz,xb,nx,kb⟩
   | _,_=>none)
   | _,_=>none)
  | _=>none
 | _=>none
def kS:Ct kSD where
 pat:=[(.ptr 0 (.c 0)),(.ptr 0 (.c 8)),(.int .u64 (.c 0)),(.sl 0 (.c 11) (.c 128) none)]
 patH:=[⟨(.gen ([(.w64 0#64),(.w64 0#64),(.w64 0#64),(.w64 0#64),(.w64 0#64),(.w64 0#64),(.w64 0#64),(.w64 0#64),(.w64 0#64),(.w64 0#64),(.int .i64 (.s 0))] ++ List.replicate 128 (.w8 0#8) ++ ([(.int .i64 (.s 0))] ++ List.replicate 128 (.w8 0#8) ++ [(.int .i64 (.c 0))]))),.own⟩]
 read:=kS_rd
 args:=fun ⟨_,_,_,_,_,_,_⟩=>[(.ptr 0 (.c 0)),(.ptr 0 (.c 8)),(.int .u64 (.c 0)),(.sl 0 (.c 11) (.c 128) none)]
 heap:=fun ⟨h,c0,c1,sz,xb,nx,kb⟩=>[⟨(.gen ([(.w64 h.x0),(.w64 h.x1),(.w64 h.x2),(.w64 h.x3),(.w64 h.x4),(.w64 h.x5),(.w64 h.x6),(.w64 h.x7),(.w64 c0),(.w64 c1),(.int .i64 (.s sz))] ++ c8v xb 128 ++ ([(.int .i64 (.s nx))] ++ c8v kb 128 ++ [(.int .i64 (.c 0))]))),.own⟩]
 out:=fun ⟨h,c0,c1,sz,xb,nx,kb⟩=>[⟨(.gen (dgc (b2 h (c0 + 128#64) c1 0#64 (wrd xb 0)) (c0 + 128#64) c1 sz (cpx xb) nx (cpx kb))),.own⟩]
 val:=fun ⟨_,_,_,_,_,_,_⟩=>(.tup [])
 good:=fun ⟨_,c0,_,_,_,_,_⟩=>decide (¬ (c0 + 128#64).toNat < (128#64).toNat)
theorem kS_run (h:H8) (c0 c1:BitVec 64) (sz:Int) (xb:Vec 8) (nx:Int) (kb:Vec 8):endsAs (kS.heap ⟨h,c0,c1,sz,xb,nx,kb⟩).length (some [0]) (kS.out ⟨h,c0,c1,sz,xb,nx,kb⟩) (kS.val ⟨h,c0,c1,sz,xb,nx,kb⟩) (goB noSpec noLoop 111 (kS.args ⟨h,c0,c1,sz,xb,nx,kb⟩) ⟨kS.heap ⟨h,c0,c1,sz,xb,nx,kb⟩,big,[false],[]⟩) = some ((kS.out ⟨h,c0,c1,sz,xb,nx,kb⟩),(kS.val ⟨h,c0,c1,sz,xb,nx,kb⟩),[(decide (((c0 + (128#64))).toNat < ((128#64)).toNat) == false)]):=by kernel_rfl
set_option maxRecDepth 100000 in
theorem kS_read (a:List AV) (K:List Blk) (d:kSD) (h:kS.read a K = some d):a = kS.args d ∧ K = kS.heap d:=by
 replace h:kS_rd a K = some d:=h
 unfold kS_rd at h
 split at h
 case h_2=>cases h
 split at h
 case h_2=>cases h
 split at h
 case h_2=>cases h
 rename_i hr hd
 obtain ⟨he,_⟩:=rd8_eq hr
 have ht:=(List.take_append_drop 128 _).symm.trans (congr (congrArg HAppend.hAppend he) hd)
 subst ht
 split at h
 case h_2=>cases h
 rename_i hr hd
 obtain ⟨he,_⟩:=rd8_eq hr
 have ht:=(List.take_append_drop 128 _).symm.trans (congr (congrArg HAppend.hAppend he) hd)
 subst ht
 injection h with h;subst h
 exact ⟨rfl,rfl⟩
theorem kS_ok:SpecOk Tryd.prog noGlob 111 kS.spec:=by
 refine kS.ok (goB_ok no_specs (no_loops _)) kS_read ?_
 rintro ⟨h,c0,c1,sz,xb,nx,kb⟩ hg
 have hg:¬ (c0 + 128#64).toNat < (128#64).toNat:=of_decide_eq_true hg
 refine ⟨[false],(some [0]),_,kS_run h c0 c1 sz xb nx kb,?_⟩
 repeat' (refine all_true_cons ?_ ?_)
 all_goals first | exact all_true_nil | rfl | (simp only [bq] <;> omega)
end
end Go.Proofs.YtineimjmnbjdlaaDoor

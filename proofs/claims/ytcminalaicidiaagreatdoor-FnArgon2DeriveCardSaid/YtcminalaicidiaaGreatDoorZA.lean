/- A part of the proof of FnArgon2Derive. No condition. -/
import Derived.Orders
import Derived.CheckFast
import Derived.Laws.Sem
import Derived.Conc.Neutral
import Derived.Conc.Listed
import Derived.Conc.Own5
import Derived.IntWalk
import Derived.Conc.Pipeline
import Derived.Conc.CrowdBase
import Derived.Conc.CrowdStepW
import Derived.Conc.FxEnd
import Derived.Conc.Beside
import Derived.Conc.CrowdStepC
import Derived.Conc.WgGenN3
import Derived.Test.YtcminalaicidiaaGreatDoorProg
import Derived.Conc.WgLib
import Derived.KernelRfl
set_option maxRecDepth 100000
set_option maxHeartbeats 8000000
set_option linter.all false
def jO:=@Array.ext'
def Oe:=@Array.getElem?_append
def dN:=@Array.getElem?_eq_getElem
def dW:=@Array.getElem?_eq_some_iff
def HT:=@Array.getElem?_modify
def Bh:=@Array.getElem?_push
def Wh:=@Array.getElem?_push_lt
def Oa:=@Array.getElem?_setIfInBounds
def El:=@Array.getElem?_setIfInBounds_ne
def y6:=@Array.mem_append
def aoc:=@Array.mem_iff_getElem
def aod:=@Array.mem_of_getElem?
def aof:=@Array.mem_singleton
def aoe:=@Array.size_setIfInBounds
def aoa:=@BitVec.allOnes_xor
def nc:=@BitVec.eq_of_toNat_eq
def uF:=@BitVec.ofInt_natCast
def V7:=@BitVec.ofNat_toNat
def V8:=@BitVec.setWidth_eq
def Wd:=@BitVec.toNat_and
def Wa:=@BitVec.toNat_eq
def rJ:=@BitVec.toNat_ofInt
def gZ:=@BitVec.toNat_ofNat
def kJ:=@BitVec.toNat_setWidth
def an9:=@BitVec.toNat_shiftLeft
def kH:=@BitVec.toNat_sub
def rI:=@BitVec.toNat_udiv
def ow:=@BitVec.toNat_umod
def y7:=@BitVec.toNat_ushiftRight
def ov:=@Bool.eq_iff_iff
def m8:=@Bool.false_eq_true
def Ek:=@Go.Conc.mem_ofEvents
def rK:=@Go.ConcN.RW.refl
def Wf:=@Go.ConcR.ofEvent_cell
def Ej:=@Go.ConcR.ofEvent_loc_mark
def aob:=@Go.ConcR.ofEvent_mk
def y8:=@Go.ConcX.ofEvent_cell
def V9:=@Int.add_emod_right
def V6:=@Int.emod_eq_of_lt
def We:=@Int.emod_nonneg
def Oc:=@Int.eq_ofNat_of_zero_le
def Wc:=@Int.fdiv_eq_ediv_of_nonneg
def Ob:=@Int.natCast_emod
def pK:=@Int.tdiv_eq_ediv_of_nonneg
def eC:=@Int.toNat_natCast
def Ei:=@Int.toNat_of_nonneg
def Bl:=@List.append_toArray
def ng:=@List.cons_append
def N8:=@List.foldl_cons
def rM:=@List.getElem?_cons_succ
def ta:=@List.getElem?_cons_zero
def s9:=@List.getElem?_drop
def dX:=@List.getElem?_eq_some_iff
def mw:=@List.getElem?_set_ne
def rL:=@List.getElem?_toArray
def fA:=@List.length_append
def iY:=@List.length_cons
def Eh:=@List.length_drop
def kK:=@List.length_nil
def lN:=@List.length_set
def jN:=@List.mem_cons
def m9:=@List.mem_cons_of_mem
def lO:=@List.mem_cons_self
def rH:=@List.mem_of_getElem?
def jP:=@List.nil_append
def HW:=@List.not_mem_nil
def Wi:=@List.set_cons_succ
def aog:=@List.set_cons_zero
def HS:=@List.take_append_of_le_length
def gd:=@Nat.add_zero
def Bj:=@Nat.div_eq_of_lt
def qv:=@Nat.eq_zero_or_pos
def HY:=@Nat.le_add_right
def pJ:=@Nat.le_of_eq
def Od:=@Nat.le_of_not_lt
def aX:=@Nat.le_refl
def gb:=@Nat.le_trans
def dL:=@Nat.lt_of_lt_of_le
def cv:=@Nat.lt_or_ge
def w6:=@Nat.lt_trichotomy
def Bi:=@Nat.min_eq_left
def HV:=@Nat.min_eq_right
def dM:=@Nat.mod_eq_of_lt
def qu:=@Nat.mod_lt
def iX:=@Nat.mul_assoc
def ox:=@Nat.not_lt_zero
def Wb:=@Nat.shiftLeft_eq
def w5:=@Nat.shiftRight_eq_div_pow
def gz:=@Nat.sub_zero
def cM:=@Nat.zero_add
def kI:=@Nat.zero_le
def fB:=@Ne.symm
def ic:=@Option.getD_some
def bU:=@Option.map_eq_some_iff
def ia:=@Option.map_some
def dV:=@Option.some.inj
def aB:=@Option.some.injEq
def aN:=@Prod.mk.injEq
def N9:=@and_self
def uG:=@and_true
def eT:=@beq_iff_eq
def jQ:=@decide_eq_false
def bl:=@decide_eq_true
def jM:=@decide_eq_true_eq
def ei:=@if_false
def ak:=@if_neg
def av:=@if_pos
def gT:=@if_true
def mq:=@ne_eq
def mu:=@not_true_eq_false
def aZ:=@of_decide_eq_true
def HX:=@or_false
def HU:=@true_and
noncomputable section
namespace Go.aA
section
variable{w n:Nat}
def cz:(∀a b:Bool,((a&&b)=true)=(a=true∧b=true))∧(∀(p:Prop) [Decidable p],(decide p=true)=p)∧(∀(c:Type) [BEq c] [LawfulBEq c] (a b:c),(a==b)=true↔a=b)∧(∀b:Bool,(b==true)=b)∧(∀b:Bool,(b==false)= !b)∧(∀b:Bool,((!b)=true)=(b=false))∧(∀(p:Prop) [Decidable p],(decide p=false)↔¬p)∧(∀(c:Type) [BEq c] [LawfulBEq c] (a b:c),(a==b)=false↔a≠b)∧(∀(c:Type) (a b:c),(a≠b)=¬(a=b))∧(∀b:Bool,((!b)=false)=(b=true))∧(∀(c:Type) [BEq c] [LawfulBEq c] (a b:c),(a !=b)=true↔a≠b)∧(∀p:Prop,(True∧p)=p)∧(∀p:Prop,(p∧True)=p):=
 ⟨by simp,by simp,fun _ _ _ _ _=>eT,by simp,by simp,by simp,by simp,fun _ _ _ _ _=>beq_eq_false_iff_ne,by simp,by simp,fun _ _ _ _ _=>bne_iff_ne,by simp,by simp⟩
inductive Z where
 |c (n:Int)|s (n:Int)
def Z.v:Z→Int|.c n=>n|.s n=>n
inductive B where
 |c (b:Bool)|s (b:Bool)
def B.v:B→Bool|.c b=>b|.s b=>b
inductive N where
 |c (n:Nat)|s (n:Nat)
def N.v:N→Nat|.c n=>n|.s n=>n
inductive bh where
 |int (k:IntKind) (z:Z)|bQ (x:BitVec 8)|cX (x:BitVec 16)|aD (x:BitVec 32)|au (x:BitVec 64)
inductive Ref where
 |ptr (b:Nat) (o:N)|eE (g:Nat) (o:N)|sl (b:Nat) (o l:N) (cap:Option N)|gs (g:Nat) (o l:N)|sm (b:Nat) (l:N) (s:Nat)
inductive Ev where
 |aa|bool (b:B)|str (s:ByteArray)|mA|cI|fC|mB|exact(v:Value)
inductive WI where
 |bx|ig (t:Nat)|fn (f:Fn) (first:Nat)
inductive af where
 |num (n:bh)|ref (r:Ref)|atom (a:Ev)|agg (xs:List af)|obj (t:WI) (xs:List af)
abbrev af.aa:af:=.atom .aa
abbrev af.bool(b:B):af:=.atom (.bool b)
abbrev af.int(k:IntKind)(z:Z):af:=.num (.int k z)
abbrev af.bQ(a:BitVec 8):af:=.num (.bQ a)
abbrev af.cX(a:BitVec 16):af:=.num (.cX a)
abbrev af.aD(a:BitVec 32):af:=.num (.aD a)
abbrev af.au(a:BitVec 64):af:=.num (.au a)
abbrev af.str(a:ByteArray):af:=.atom (.str a)
abbrev af.ptr(b:Nat)(a:N):af:=.ref (.ptr b a)
abbrev af.eE(g:Nat)(a:N):af:=.ref (.eE g a)
abbrev af.sm(b:Nat)(l:N)(a:Nat):af:=.ref (.sm b l a)
abbrev af.sl(b:Nat)(a l:N)(c:Option N):af:=.ref (.sl b a l c)
abbrev af.mA:af:=.atom .mA
abbrev af.cI:af:=.atom .cI
abbrev af.fC:af:=.atom .fC
abbrev af.mB:af:=.atom .mB
abbrev af.exact(v:Value):af:=.atom (.exact v)
abbrev af.bx(a:List af):af:=.obj .bx a
abbrev af.ig(t:Nat)(v:af):af:=.obj (.ig t) [v]
abbrev af.fn(f:Fn)(first captured:List af):af:=.obj (.fn f first.length) (first++captured)
structure U(w:Nat)where
 n:Nat
 l:List (BitVec w)
 h:l.length=n
def U.of(l:List (BitVec w)):U w:=⟨l.length,l,rfl⟩
def U.set(v:U w)(a:Nat)(b:BitVec w):U w:=⟨v.n,v.l.set a b,by rw[lN];exact v.h⟩
def U.app(v u:U w):U w:=⟨v.n+u.n,v.l++u.l,by rw[fA,v.h,u.h]⟩
def U.sub(v:U w)(a m:Nat):U w:=⟨m,(v.l.drop a++List.replicate m 0).take m,by simp⟩
def U.BA{v:U w}{a m:Nat}(h:a+m≤v.n):(v.sub a m).l=(v.l.drop a).take m:=by
 have:=v.h
 show(v.l.drop a++List.replicate m 0).take m=_;rw[HS (by rw[Eh];omega)]
def rP{a:Type}:List a→Nat→List a→List a|l,_,[]=>l|l,b,c::d=>rP (l.set b c) (b+1) d
def Oo{c:Type}:∀(a l:List c) (b:Nat),(rP l b a).length=l.length|[],_,_=>rfl|d::a,l,b=>by rw[rP,Oo a,lN]
def U.over(v:U w)(a:Nat)(u:U w):U w:=⟨v.n,rP v.l a u.l,by rw[Oo];exact v.h⟩
def U.zero(w n:Nat):U w:=⟨n,List.replicate n 0,by simp⟩
inductive Data where
 |gen (l:List af)|ag (l:U 8)|eY (l:U 32)|bt (l:U 64)|spot (n ep:Nat) (x:af)|fc (l:List Value) (t:List af)|lim (f:Nat→Bool→Bool) (l:U 64)
inductive Mode where
 |ro|own|bn
structure ah where
 data:Data
 mode:Mode
structure ai where
 H:List ah
 low:Nat
 dec:List Bool
 cond:List Bool
def ai.eU(S:ai)(b:Bool):ai:={S with cond:=b::S.cond}
def kL:Int→Int→Bool|.ofNat a,.ofNat b=>Nat.ble a b|.ofNat _,.negSucc _=>false|.negSucc _,.ofNat _=>true|.negSucc a,.negSucc b=>Nat.ble b a
def kM:Int→Int→Bool|.ofNat a,.ofNat b=>Nat.beq a b|.ofNat _,.negSucc _=>false|.negSucc _,.ofNat _=>false|.negSucc a,.negSucc b=>Nat.beq b a
def Ew(a b:Int):Bool:=kL (a+1) b
def rQ:IntKind→IntKind→Bool|.i8,.i8|.i16,.i16|.i32,.i32|.i64,.i64|.u8,.u8|.u16,.u16|.u32,.u32|.u64,.u64=>true|_,_=>false
def lo:IntKind→Int|.i8=> -128|.i16=> -32768|.i32=> -2147483648|.i64=> -9223372036854775808|_=>0
def hi:IntKind→Int|.i8=>127|.i16=>32767|.i32=>2147483647|.i64=>9223372036854775807|.u8=>255|.u16=>65535|.u32=>4294967295|.u64=>18446744073709551615
def qy(k:IntKind)(n:Int):Int:=
 match kL (lo k) n with
 |true=>
  match kL n (hi k)with
  |true=>n|false=>k.wrap n
 |false=>k.wrap n
def B.test(b:B)(S:ai):Option (Bool×ai):=
 match b with
 |.c b=>some (b,S)|.s b=>
  match S.dec with
  |d::r=>some (d,{S with dec:=r,cond:=(b==d)::S.cond})
  |[]=>none
def B.cj(b:B)(S:ai):Option ai:=
 match b with
 |.c b=>
  match b with
  |true=>some S|false=>none
 |.s b=>some (S.eU b)
def B.and(e d:B):B:=
 match e with
 |.c a=>
  match d with
  |.c b=>.c (a&&b)|.s b=>.s (a&&b)
 |.s a=>.s (a&&d.v)
def B.not:B→B|.c b=>.c !b|.s b=>.s !b
def Z.lt(e d:Z):B:=
 match e with
 |.c a=>
  match d with
  |.c b=>.c (Ew a b)|.s b=>.s (decide (a<b))
 |.s a=>.s (decide (a<d.v))
def Z.le(e d:Z):B:=
 match e with
 |.c a=>
  match d with
  |.c b=>.c (kL a b)|.s b=>.s (decide (a≤b))
 |.s a=>.s (decide (a≤d.v))
def Z.eq(e d:Z):B:=
 match e with
 |.c a=>
  match d with
  |.c b=>.c (kM a b)|.s b=>.s (a==b)
 |.s a=>.s (a==d.v)
def N.le(e d:N):B:=
 match e with
 |.c a=>
  match d with
  |.c b=>.c (Nat.ble a b)|.s b=>.s (decide (a≤b))
 |.s a=>.s (decide (a≤d.v))
def N.eq(e d:N):B:=
 match e with
 |.c a=>
  match d with
  |.c b=>.c (Nat.beq a b)|.s b=>.s (a==b)
 |.s a=>.s (a==d.v)
def N.toZ:N→Z|.c n=>.c n|.s n=>.s n
def Z.toN:Z→N|.c n=>.c n.toNat|.s n=>.s n.toNat
def N.Ex(f:Nat→Nat→Nat)(e d:N):N:=
 match e with
 |.c a=>
  match d with
  |.c b=>.c (f a b)|.s b=>.s (f a b)
 |.s a=>.s (f a d.v)
def N.add(a b:N):N:=N.Ex Nat.add a b
def N.sub(a b:N):N:=N.Ex Nat.sub a b
def N.min(a b:N):N:=N.Ex Nat.min a b
def N.ij(a:N)(n:Nat):N:=
 match a with
 |.c b=>.c (b*n)|.s b=>.s (b*n)
def ze(n:Nat)(k b:IntKind)(a:Int):Option (BitVec n):=
 match rQ k b with
 |false=>none|true=>
  match a with
  |.ofNat a=>
   match Nat.blt a (2^n)with
   |true=>some (BitVec.ofNat n a)|false=>none
  |.negSucc _=>none
def bh.fD(v:bh):Option (BitVec 8):=
 match v with
 |.bQ a=>some a|.int k z=>
  match z with
  |.c a=>ze 8 .u8 k a|.s _=>none
 |_=>none
def af.fD(v:af):Option (BitVec 8):=
 match v with
 |.num n=>n.fD|_=>none
def bh.mC(v:bh):Option (BitVec 16):=
 match v with
 |.cX a=>some a|.int k z=>
  match z with
  |.c a=>ze 16 .u16 k a|.s _=>none
 |_=>none
def af.mC(v:af):Option (BitVec 16):=
 match v with
 |.num n=>n.mC|_=>none
def bh.iq(v:bh):Option (BitVec 32):=
 match v with
 |.aD a=>some a|.int k z=>
  match z with
  |.c a=>ze 32 .u32 k a|.s _=>none
 |_=>none
def af.iq(v:af):Option (BitVec 32):=
 match v with
 |.num n=>n.iq|_=>none
def bh.fE(v:bh):Option (BitVec 64):=
 match v with
 |.au a=>some a|.int k z=>
  match z with
  |.c a=>ze 64 .u64 k a|.s _=>none
 |_=>none
def af.fE(v:af):Option (BitVec 64):=
 match v with
 |.num n=>n.fE|_=>none
def bh.z(v:bh):Z:=
 match v with
 |.int _ z=>z|.bQ a=>.s a.toNat|.cX a=>.s a.toNat|.aD a=>.s a.toNat|.au a=>.s a.toNat
def af.bF(v:af):Option Z:=
 match v with
 |.num n=>some n.z|_=>none
def xe:Value→af
 |.bool b=>.bool (.c b)|.int k n=>.int k (.c n)|.string a=>.str a|.pointer none=>.mA|.slice none 0 0=>.cI|.nilIface=>.fC|.nilFunc=>.mB|.agg ⟨l⟩=>.agg (BB l)|.tuple ⟨l⟩=>.bx (BB l)|_=>.aa
 where BB:List Value→List af
  |[]=>[]|v::r=>xe v::BB r
def qz(c:BinOp):Option (Z→Z→B):=
 match c with
 |.eql=>some fun a b=>a.eq b|.neq=>some fun a b=>(a.eq b).not|.lss=>some fun a b=>a.lt b|.leq=>some fun a b=>a.le b|.gtr=>some fun a b=>b.lt a|.geq=>some fun a b=>b.le a|_=>none
inductive WJ where
 |word (f:(n:Nat)→BitVec n→BitVec n→BitVec n)|div (f:(n:Nat)→BitVec n→BitVec n→BitVec n)|test (f:(n:Nat)→BitVec n→BitVec n→Bool)|no
def Ii(c:BinOp):WJ:=
 match c with
 |.add=>.word fun _ a b=>a+b|.sub=>.word fun _ a b=>a-b|.mul=>.word fun _ a b=>a*b|.quo=>.div fun _ a b=>a/b|.rem=>.div fun _ a b=>a%b|.and=>.word fun _ a b=>a&&&b|.or=>.word fun _ a b=>a|||b|.xor=>.word fun _ a b=>a^^^b|.andNot=>.word fun _ a b=>a&&&~~~b|.eql=>.test fun _ a b=>a==b|.neq=>.test fun _ a b=>a !=b|.lss=>.test fun _ a b=>decide (a.toNat<b.toNat)|.leq=>.test fun _ a b=>decide (a.toNat≤b.toNat)|.gtr=>.test fun _ a b=>decide (b.toNat<a.toNat)|.geq=>.test fun _ a b=>decide (b.toNat≤a.toNat)|_=>.no
def zf(c:BinOp)(n:Nat)(mk:BitVec n→af)(b a:BitVec n)(S:ai):Option (af×ai):=
 match Ii c with
 |.word f=>some (mk (f n b a),S)|.div f=>some (mk (f n b a),S.eU (a !=0))|.test f=>some (.bool (.s (f n b a)),S)|.no=>none
def oB(mk:BitVec n→af)(c:BinOp)(a b:Option (BitVec n))(S:ai):Option (af×ai):=
 match a with
 |none=>none|some a=>
  match b with
  |none=>none|some b=>zf c n mk a b S
def Ij(c:BinOp):Option ((n:Nat)→BitVec n→Nat→BitVec n):=
 match c with
 |.shl=>some fun _ a b=>a<<<b|.shr=>some fun _ a b=>a>>>b|_=>none
def BC(a:BinOp)(n:Nat)(mk:BitVec n→af)(b:BitVec n)(c:Nat)(S:ai):Option (af×ai):=
 match Ij a with
 |some f=>some (mk (f n b c),S)|none=>none
def td(mk:BitVec n→af)(b:BinOp)(d:BitVec n)(a:Z)(S:ai):Option (af×ai):=
 match((Z.c 0).le a).cj S with
 |none=>none|some S=>BC b n mk d a.v.toNat S
def BD(k:IntKind)(c:Unit→Int)(f:Nat→Nat→Nat)(a b:Int):Int:=
 match a with
 |.ofNat d=>
  match b with
  |.ofNat e=>
   match kL a (hi k)with
   |true=>
    match kL b (hi k)with
    |true=>.ofNat (f d e)|false=>c ()
   |false=>c ()
  |.negSucc _=>c ()
 |.negSucc _=>c ()
def BE(d:BinOp):Option (IntKind→Int→Int→Option Z):=
 match d with
 |.add=>some fun k a b=>some (.c (qy k (a+b)))|.sub=>some fun k a b=>some (.c (qy k (a-b)))|.mul=>some fun k a b=>some (.c (qy k (a*b)))|.quo=>some fun k a b=>match kM b 0 with|true=>none|false=>some (.c (qy k (a.tdiv b)))
 |.rem=>some fun _ a b=>match kM b 0 with|true=>none|false=>some (.c (a.tmod b))
 |.and=>some fun k a b=>some (.c (BD k (fun _=>k.wrap (BitVec.ofInt k.bits a&&&BitVec.ofInt k.bits b).toNat) Nat.land a b))|.or=>some fun k a b=>some (.c (BD k (fun _=>k.wrap (BitVec.ofInt k.bits a|||BitVec.ofInt k.bits b).toNat) Nat.lor a b))|.xor=>some fun k a b=>some (.c (BD k (fun _=>k.wrap (BitVec.ofInt k.bits a^^^BitVec.ofInt k.bits b).toNat) Nat.xor a b))|.andNot=>some fun k a b=>some (.c (k.wrap (BitVec.ofInt k.bits a&&&~~~ BitVec.ofInt k.bits b).toNat))|_=>none
def Oq(k:IntKind)(a b:Int):Int:=k.wrap (BitVec.ofInt k.bits a&&&BitVec.ofInt k.bits b).toNat
def bk(k:IntKind)(a b:Int):Int:=k.wrap (BitVec.ofInt k.bits a&&&~~~ BitVec.ofInt k.bits b).toNat
def Ot(k:IntKind)(a b:Int):Int:=k.wrap (BitVec.ofInt k.bits a|||BitVec.ofInt k.bits b).toNat
def Ou(k:IntKind)(a:Int)(n:Nat):Int:=k.wrap (a*2^n)
def BF(c:BinOp):Option (IntKind→Int→Int→ai→af×ai):=
 match c with
 |.add=>some fun k a b S=>(.int k (.s (a+b)),S.eU (decide (lo k≤a+b∧a+b≤hi k)))|.sub=>some fun k a b S=>(.int k (.s (a-b)),S.eU (decide (lo k≤a-b∧a-b≤hi k)))|.mul=>some fun k a b S=>(.int k (.s (a*b)),S.eU (decide (lo k≤a*b∧a*b≤hi k)))|.quo=>some fun k a b S=>(.int k (.s (a.tdiv b)),S.eU (decide (0≤a∧0<b∧a≤hi k)))|.rem=>some fun k a b S=>(.int k (.s (a.tmod b)),S.eU (decide (b≠0)))|.and=>some fun k a b S=>(.int k (.s (Oq k a b)),S.eU (decide (0≤b)))|.andNot=>some fun k a b S=>(.int k (.s (bk k a b)),S.eU (decide (0≤b)))|.or=>some fun k a b S=>(.int k (.s (Ot k a b)),S.eU (decide (lo k≤0)))|.xor=>some fun k a b S=>(.int k (.s ((a.toNat^^^b.toNat:Nat))),S.eU (decide (0≤a∧0≤b∧a≤hi k∧b≤hi k)))|_=>none
def uN(c:BinOp)(k:IntKind)(a b:Int)(S:ai):Option (af×ai):=
 match BF c with
 |some f=>some (f k a b S)|none=>none
def intArith(d:BinOp)(k:IntKind)(g e:Z)(S:ai):Option (af×ai):=
 match qz d with
 |some f=>some (.bool (f g e),S)|none=>
  match g with
  |.c a=>
   match e with
   |.c b=>
    match BE d with
    |some f=>
     match f k a b with
     |some z=>some (.int k z,S)|none=>none
    |none=>none
   |.s b=>uN d k a b S
  |.s a=>
   match e with
   |.c b=>uN d k a b S|.s b=>uN d k a b S
def BG(c:BinOp)(k:IntKind)(a:Int)(n:Nat):Option Int:=
 match c with
 |.shl=>
  match a with
  |.ofNat b=>some (qy k (.ofNat (Nat.shiftLeft b (Nat.min n k.bits))))|a=>some (k.wrap (a*2^(Nat.min n k.bits)))
 |.shr=>
  match a with
  |.ofNat b=>some (.ofNat (Nat.shiftRight b (Nat.min n k.bits)))|a=>some (a.fdiv (2^(Nat.min n k.bits)))
 |_=>none
def zg(k:IntKind)(z:Z)(d:BinOp)(e:Z)(S:ai):Option (af×ai):=
 match e with
 |.s _=>none|.c b=>
  match kL 0 b with
  |false=>none|true=>
   match z with
   |.c a=>
    match BG d k a b.toNat with
    |some r=>some (.int k (.c r),S)|none=>none
   |.s a=>
    match Nat.blt b.toNat k.bits with
    |false=>none|true=>
     match d with
     |.shl=>some (.int k (.s (Ou k a b.toNat)),S)|.shr=>some (.int k (.s (a/2^b.toNat)),S)|_=>none
def BH(a:bh)(b:BinOp)(c:Z)(S:ai):Option (af×ai):=
 match a with
 |.int k z=>zg k z b c S|.bQ a=>td .bQ b a c S|.cX a=>td .cX b a c S|.aD a=>td .aD b a c S|.au a=>td .au b a c S
def Ik:BinOp→Bool|.shl|.shr=>true|_=>false
def BI(k:IntKind)(a:Z)(c:bh)(d:BinOp)(S:ai):Option (af×ai):=
 match c with
 |.int e b=>
  match rQ k e with
  |true=>intArith d k a b S|false=>none
 |.bQ c=>oB .bQ d (bh.int k a).fD (some c) S|.cX c=>oB .cX d (bh.int k a).mC (some c) S|.aD c=>oB .aD d (bh.int k a).iq (some c) S|.au c=>oB .au d (bh.int k a).fE (some c) S
def zh(b c:bh)(d:BinOp)(S:ai):Option (af×ai):=
 match b with
 |.int k a=>BI k a c d S|.bQ b=>oB .bQ d (some b) c.fD S|.cX b=>oB .cX d (some b) c.mC S|.aD b=>oB .aD d (some b) c.iq S|.au b=>oB .au d (some b) c.fE S
def binop(c:BinOp)(a b:af)(S:ai):Option (af×ai):=
 match a with
 |.num a=>
  match b with
  |.num b=>
   match Ik c with
   |true=>BH a c b.z S|false=>zh a b c S
  |_=>none
 |_=>none
def uO(k:IntKind)(n:Nat)(a b c d:af)(S:ai):Option (af×ai):=
 match k with
 |.u8=>some (a,S)|.u16=>some (b,S)|.u32=>some (c,S)|.u64=>some (d,S)|k=>some (.int k (.s n),S.eU (decide ((n:Int)≤hi k)))
def BJ(n:Int)(k:IntKind)(S:ai):Option (af×ai):=
 match k with
 |.u8=>some (.bQ (BitVec.ofInt 8 n),S)|.u16=>some (.cX (BitVec.ofInt 16 n),S)|.u32=>some (.aD (BitVec.ofInt 32 n),S)|.u64=>some (.au (BitVec.ofInt 64 n),S)|k=>some (.int k (.s n),S.eU (decide (lo k≤n∧n≤hi k)))
def xg(v:bh)(k:IntKind)(S:ai):Option (af×ai):=
 match v with
 |.int _ z=>
  match z with
  |.c n=>some (.int k (.c (qy k n)),S)|.s n=>BJ n k S
 |.bQ a=>uO k a.toNat (.bQ a) (.cX (a.setWidth 16)) (.aD (a.setWidth 32)) (.au (a.setWidth 64)) S|.cX a=>uO k a.toNat (.bQ (a.setWidth 8)) (.cX a) (.aD (a.setWidth 32)) (.au (a.setWidth 64)) S|.aD a=>uO k a.toNat (.bQ (a.setWidth 8)) (.cX (a.setWidth 16)) (.aD a) (.au (a.setWidth 64)) S|.au a=>uO k a.toNat (.bQ (a.setWidth 8)) (.cX (a.setWidth 16)) (.aD (a.setWidth 32)) (.au a) S
def xh(v:af)(k:IntKind)(S:ai):Option (af×ai):=
 match v with
 |.num n=>xg n k S|_=>none
def zi(a:bh):Option af:=
 match a with
 |.int k z=>
  match z with
  |.c n=>some (.int k (.c (qy k (0-n))))|.s _=>none
 |.bQ a=>some (.bQ (0#8-a))|.cX a=>some (.cX (0#16-a))|.aD a=>some (.aD (0#32-a))|.au a=>some (.au (0#64-a))
def zj(a:bh):Option af:=
 match a with
 |.int k z=>
  match z with
  |.c n=>some (.int k (.c (k.wrap (BitVec.ofInt k.bits (if k.signed then -1 else k.max)^^^BitVec.ofInt k.bits n).toNat)))
  |.s _=>none
 |.bQ a=>some (.bQ (~~~a))|.cX a=>some (.cX (~~~a))|.aD a=>some (.aD (~~~a))|.au a=>some (.au (~~~a))
def unop(c:UnOp)(d:af):Option af:=
 match d with
 |.num n=>
  match c with
  |.neg=>zi n|.xor=>zj n|_=>none
 |.atom a=>
  match a with
  |.bool b=>
   match c with
   |.not=>some (.bool b.not)|_=>none
  |_=>none
 |_=>none
def aU{a:Type}:Nat→List a→Option a|_,[]=>none|0,b::_=>some b|n+1,_::r=>aU n r
def fe{a:Type}(v:a):Nat→List a→List a|_,[]=>[]|0,_::r=>v::r|n+1,b::r=>b::fe v n r
def nj{a:Type}(vs:List a):Nat→List a→Option (List a)
 |0,l=>
  match Nat.ble vs.length l.length with
  |true=>some (vs++l.drop vs.length)|false=>none
 |_+1,[]=>none|n+1,b::r=>
  match nj vs n r with
  |some r=>some (b::r)|none=>none
def tf{a:Type}(n:Nat):Nat→List a→Option (List a)
 |0,l=>
  match Nat.ble n l.length with
  |true=>some (l.take n)|false=>none
 |_+1,[]=>none|b+1,_::r=>tf n b r
def Data.len:Data→Nat|.gen l=>l.length|.ag l=>l.n|.eY l=>l.n|.bt l=>l.n|.spot n _ _=>n|.fc l t=>l.length+t.length|.lim _ l=>l.n
def Data.jx:Data→N|.gen l=>.c l.length|.ag l=>.s l.n|.eY l=>.s l.n|.bt l=>.s l.n|.spot n _ _=>.s n|.fc l t=>.s (l.length+t.length)|.lim _ l=>.s l.n
def cU{a β:Type}(f:a→Option β):List a→Option (List β)
 |[]=>some []|b::r=>
  match f b with
  |none=>none|some c=>
   match cU f r with
   |none=>none|some d=>some (c::d)
def Data.j7:Data→Option (U 8)|.ag l=>some l|.gen l=>(cU af.fD l).map U.of|_=>none
def Data.oC:Data→Option (U 32)|.eY l=>some l|.gen l=>(cU af.iq l).map U.of|_=>none
def Data.oD:Data→Option (U 64)|.bt l=>some l|.gen l=>(cU af.fE l).map U.of|_=>none
def Data.mD(d:Data)(a:N)(S:ai):Option (af×ai):=
 match d with
 |.gen l=>
  match a with
  |.c n=>(aU n l).map (·,S)|.s _=>none
 |.ag l=>some (.bQ (l.l.getD a.v 0#8),S.eU (decide (a.v<l.n)))|.eY l=>some (.aD (l.l.getD a.v 0#32),S.eU (decide (a.v<l.n)))|.bt l=>some (.au (l.l.getD a.v 0#64),S.eU (decide (a.v<l.n)))|.spot n b e=>some (e,S.eU (decide (a.v=b∧b<n)))|.fc .. =>none|.lim f l=>some (.au (l.l.getD a.v 0#64),(S.eU (decide (a.v<l.n))).eU (f a.v false))
def Data.lg(d:Data)(a:N)(v:af)(S:ai):Option (Data×ai):=
 match d with
 |.gen l=>
  match a with
  |.c n=>
   match Nat.blt n l.length with
   |true=>some (.gen (fe v n l),S)|false=>none
  |.s _=>none
 |.ag l=>v.fD.map fun b=>(.ag (l.set a.v b),S.eU (decide (a.v<l.n)))|.eY l=>v.iq.map fun b=>(.eY (l.set a.v b),S.eU (decide (a.v<l.n)))|.bt l=>v.fE.map fun b=>(.bt (l.set a.v b),S.eU (decide (a.v<l.n)))|.spot .. =>none|.fc .. =>none|.lim f l=>v.fE.map fun b=>(.lim f (l.set a.v b),(S.eU (decide (a.v<l.n))).eU (f a.v true))
def Data.kN(d:Data)(a n:N)(S:ai):Option (Data×ai):=
 match d with
 |.gen l=>
  match a with
  |.c a=>
   match n with
   |.c n=>(tf n a l).map fun l=>(.gen l,S)|.s _=>none
  |.s _=>none
 |.ag l=>some (.ag (l.sub a.v n.v),S.eU (decide (a.v+n.v≤l.n)))|.eY l=>some (.eY (l.sub a.v n.v),S.eU (decide (a.v+n.v≤l.n)))|.bt l=>some (.bt (l.sub a.v n.v),S.eU (decide (a.v+n.v≤l.n)))|.spot .. =>none|.fc .. =>none|.lim .. =>none
def over{a:Type}(l:List a)(b:Nat)(c:List a):List a:=l.take b++c++l.drop (b+c.length)
def Data.jy(d:Data)(b:N)(e:Data)(S:ai):Option (Data×ai):=
 match d with
 |.gen l=>
  match b with
  |.c b=>
   match e with
   |.gen a=>(nj a b l).map fun l=>(.gen l,S)|_=>none
  |.s _=>none
 |.ag l=>e.j7.map fun a=>(.ag (l.over b.v a),S.eU (decide (b.v+a.n≤l.n)))|.eY l=>e.oC.map fun a=>(.eY (l.over b.v a),S.eU (decide (b.v+a.n≤l.n)))|.bt l=>e.oD.map fun a=>(.bt (l.over b.v a),S.eU (decide (b.v+a.n≤l.n)))|.spot .. =>none|.fc .. =>none|.lim .. =>none
def Data.words(d:Data):Option Data:=
 match d with
 |.gen _=>
  match d.j7 with
  |some v=>some (.ag v)|none=>
   match d.oC with
   |some v=>some (.eY v)|none=>
    match d.oD with
    |some v=>some (.bt v)|none=>none
 |_=>none
def mE:List af→List af×List af
 |[]=>([],[])|c::r=>
  match c.fD with
  |some _=>([],c::r)|none=>
   match mE r with
   |(a,b)=>(c::a,b)
def oE:List af→List (BitVec 8)×List af
 |[]=>([],[])|c::r=>
  match c.fD with
  |some w=>
   match oE r with
   |(a,b)=>(w::a,b)
  |none=>([],c::r)
structure uP where
 pre:List af
 row:U 8
 post:List af
def Data.mid(d:Data):Option uP:=
 match d with
 |.gen l=>
  match mE l with
  |(pre,r)=>
   match oE r with
   |(ws,post)=>some ⟨pre,U.of ws,post⟩
 |_=>none
def Ey(v:U 8)(n:Nat):List af:=(List.range n).map fun i=>.bQ (v.l.getD i 0#8)
def uP.put(m:uP)(v:U 8):Data:=.gen (m.pre++(Ey v m.row.n++m.post))
def uP.at(m:uP)(a:N)(n:Nat)(S:ai):ai:=S.eU (decide (m.pre.length≤a.v∧a.v+n≤m.pre.length+m.row.n))
def Data.zk(d:Data)(a:N)(S:ai):Option (af×ai):=
 match d.mid with
 |some m=>some (.bQ (m.row.l.getD (a.v-m.pre.length) 0#8),m.at a 1 S)|none=>none
def Data.Ez(d:Data)(a:N)(v:af)(S:ai):Option (Data×ai):=
 match d.mid with
 |some m=>
  match v.fD with
  |some b=>some (m.put (m.row.set (a.v-m.pre.length) b),m.at a 1 S)|none=>none
 |none=>none
def Data.qA(d:Data)(a n:N)(S:ai):Option (Data×ai):=
 match d.mid with
 |some m=>some (.ag (m.row.sub (a.v-m.pre.length) n.v),m.at a n.v S)|none=>none
def Data.BK(d:Data)(a:N)(c:Data)(S:ai):Option (Data×ai):=
 match d.mid with
 |some m=>
  match c.j7 with
  |some b=>some (m.put (m.row.over (a.v-m.pre.length) b),m.at a b.n S)|none=>none
 |none=>none
def Data.get(d:Data)(a:N)(S:ai):Option (af×ai):=
 match d.mD a S with
 |some r=>some r|none=>
  match d.words with
  |some d=>d.mD a S|none=>d.zk a S
def Data.set(d:Data)(a:N)(v:af)(S:ai):Option (Data×ai):=
 match d.lg a v S with
 |some r=>some r|none=>
  match d.words with
  |some d=>d.lg a v S|none=>d.Ez a v S
def Data.sub(d:Data)(a n:N)(S:ai):Option (Data×ai):=
 match d.kN a n S with
 |some r=>some r|none=>
  match d.words with
  |some d=>d.kN a n S|none=>d.qA a n S
def Data.over(d:Data)(a:N)(b:Data)(S:ai):Option (Data×ai):=
 match d.jy a b S with
 |some r=>some r|none=>
  match d.words with
  |some d=>d.jy a b S|none=>d.BK a b S
def Data.mF(d:Data)(n:Nat)(a:N)(S:ai):Option (List af×ai):=
 match d with
 |.gen l=>
  match a with
  |.c a=>(tf n a l).map (·,S)|.s _=>none
 |.ag v=>some ((List.range n).map (fun i=>.bQ (v.l.getD (a.v+i) 0#8)),S.eU (decide (a.v+n≤v.n)))|.eY v=>some ((List.range n).map (fun i=>.aD (v.l.getD (a.v+i) 0#32)),S.eU (decide (a.v+n≤v.n)))|.bt v=>some ((List.range n).map (fun i=>.au (v.l.getD (a.v+i) 0#64)),S.eU (decide (a.v+n≤v.n)))|.spot .. =>none|.fc .. =>none|.lim .. =>none
def Data.cells(d:Data)(n:Nat)(a:N)(S:ai):Option (List af×ai):=
 match d.mF n a S with
 |some r=>some r|none=>
  match d.words with
  |some d=>d.mF n a S|none=>none
def Data.app(d b:Data):Option Data:=
 match d with
 |.gen l=>
  match b with
  |.gen a=>some (.gen (l++a))|.ag a=>(cU af.fD l).map fun l=>.ag ((U.of l).app a)|.eY a=>(cU af.iq l).map fun l=>.eY ((U.of l).app a)|.bt a=>(cU af.fE l).map fun l=>.bt ((U.of l).app a)|.spot .. =>none|.fc .. =>none|.lim .. =>none
 |.ag l=>b.j7.map fun a=>.ag (l.app a)|.eY l=>b.oC.map fun a=>.eY (l.app a)|.bt l=>b.oD.map fun a=>.bt (l.app a)|.spot .. =>none|.fc l t=>
  match b with
  |.gen a=>some (.fc l (t++a))|_=>none
 |.lim .. =>none
def ai.read(S:ai)(b:Nat):Option Data:=
 match aU b S.H with
 |some ⟨d,m⟩=>
  match m with
  |.bn=>none|_=>some d
 |none=>none
def ai.write(S:ai)(b:Nat)(d:Data):Option ai:=
 match aU b S.H with
 |some ⟨_,m⟩=>
  match m with
  |.own=>some {S with H:=fe ⟨d,.own⟩ b S.H,low:=Nat.min S.low b}
  |_=>none
 |none=>none
def ai.kill(S:ai)(b:Nat):ai:={S with H:=fe ⟨.gen [],.bn⟩ b S.H,low:=Nat.min S.low b}
def ai.new(S:ai)(d:Data):Nat×ai:=(S.H.length,{S with H:=S.H++[⟨d,.own⟩]})
section
variable(P:Program)
def nk(t:TypeId):Option Bool:=
 match P.underlying t with
 |some (.struct _)|some (.array _ _)=>some true|some _=>some false|none=>none
def ej(t:TypeId):Option Nat:=
 match P.info? t with
 |some i=>some i.size|none=>none
def af.single(v:af):Bool:=
 match v with
 |.num _=>true|.ref _=>true|.atom a=>
  match a with
  |.aa=>false|.exact _=>false|_=>true
 |.agg _=>false|.obj t _=>
  match t with
  |.bx=>false|_=>true
def af.row(v:af):Option (List af):=
 match v with
 |.agg a=>some a|v=>
  match v.single with
  |true=>some [v]|false=>none
def zl:List af→Bool
 |[]=>true|v::r=>
  match v.single with
  |true=>zl r|false=>false
def mG(t:TypeId):Option (List af):=
 match P.info? t with
 |some i=>
  match i.zero with
  |some z=>
   match(xe z).row with
   |some l=>
    match Nat.beq l.length i.size with
    |true=>some l|false=>none
   |none=>none
  |none=>none
 |none=>none
def uQ(e:Nat→Option (List af))(a:af)(S:ai):Option (af×ai):=
 match a with
 |.ref (.ptr b c)=>
  match S.read b with
  |some d=>d.get c S|none=>none
 |.ref (.eE g c)=>
  match e g with
  |some l=>Data.get (.gen l) c S|none=>none
 |_=>none
def rR(f:Nat→Option (List af))(a:af)(n:Nat)(S:ai):Option (List af×ai):=
 match a with
 |.ref (.ptr b e)=>
  match S.read b with
  |some d=>d.cells n e S|none=>none
 |.ref (.eE g e)=>
  match e with
  |.c e=>
   match n with
   |0=>some ([],S)|n=>
    match f g with
    |some l=>(tf n e l).map (·,S)|none=>none
  |.s _=>none
 |_=>none
def oF(b:Nat→Option (List af))(t:TypeId)(a:af)(S:ai):Option (af×ai):=
 match nk P t with
 |none=>none|some true=>
  match ej P t with
  |some n=>
   match rR b a n S with
   |some (l,S)=>some (.agg l,S)|none=>none
  |none=>none
 |some false=>uQ b a S
def zm(t:TypeId)(a v:af)(S:ai):Option ai:=
 match a with
 |.ref (.ptr b e)=>
  match S.read b with
  |none=>none|some d=>
   match ej P t with
   |none=>none|some n=>
    match v with
    |.agg c=>
     match Nat.beq c.length n&&zl c with
     |true=>
      match d.over e (.gen c) S with
      |some (d,S)=>S.write b d|none=>none
     |false=>none
    |v=>
     match v.single with
     |true=>
      match Nat.beq n 1 with
      |true=>
       match d.set e v S with
       |some (d,S)=>S.write b d|none=>none
      |false=>none
     |false=>none
 |_=>none
def zn(t:TypeId):Option (TypeId×Nat):=
 match P.underlying t with
 |some (.slice a)=>(ej P a).map (a,·)|_=>none
def jS(z:Z)(l:Z):B:=B.and ((Z.c 0).le z) (z.lt l)
def zo(t:TypeId)(f i:af)(S:ai):Option (af×ai):=
 match i.bF with
 |none=>none|some z=>
  match P.underlying t with
  |some (.array n e)=>
   match ej P e with
   |none=>none|some a=>
    match(jS z (.c n)).cj S with
    |none=>none|some S=>
     match f with
     |.ref (.ptr b d)=>some (.ptr b (d.add (z.toN.ij a)),S)|.ref (.eE g d)=>some (.eE g (d.add (z.toN.ij a)),S)|_=>none
  |some (.slice e)=>
   match ej P e with
   |none=>none|some a=>
    match f with
    |.ref (.sl b d l _)=>
     match(jS z l.toZ).cj S with
     |some S=>some (.ptr b (d.add (z.toN.ij a)),S)|none=>none
    |.ref (.gs g d l)=>
     match(jS z l.toZ).cj S with
     |some S=>some (.eE g (d.add (z.toN.ij a)),S)|none=>none
    |.ref (.sm b l h)=>
     match Nat.beq h a with
     |true=>
      match(jS z l.toZ).cj S with
      |some S=>some (.ptr b ((N.c 0).add (z.toN.ij a)),S)|none=>none
     |false=>none
    |_=>none
  |_=>none
def bound(v:Option af)(a:N):Option Z:=
 match v with
 |none=>some a.toZ|some v=>v.bF
def gW(l h m:Z):B:=B.and (B.and ((Z.c 0).le l) (l.le h)) (h.le m)
def zp(n a:Nat)(b:Nat)(e:N)(lo hi f:Option af)(S:ai):Option (af×ai):=
 match bound lo (.c 0)with
 |none=>none|some l=>
  match bound hi (.c n)with
  |none=>none|some h=>
   match f with
   |some _=>none|none=>
    match S.read b with
    |none=>none|some d=>
     match((e.add (.c (n*a))).le d.jx).cj S with
     |none=>none|some S=>
      match(gW l h (.c n)).cj S with
      |some S=>some (.sl b (e.add (l.toN.ij a)) (h.toN.sub l.toN) (some ((N.c n).sub l.toN)),S)|none=>none
def BL(b:Nat)(a len:N)(e:Option N)(lo hi d:Option af)(S:ai):Option (af×ai):=
 match bound lo (.c 0)with
 |none=>none|some l=>
  match bound hi len with
  |none=>none|some h=>
   match e with
   |none=>
    match d with
    |some _=>none|none=>
     match(gW l h len.toZ).cj S with
     |some S=>some (.sl b (a.add l.toN) (h.toN.sub l.toN) none,S)|none=>none
   |some c=>
    match d with
    |none=>
     match(gW l h c.toZ).cj S with
     |some S=>some (.sl b (a.add l.toN) (h.toN.sub l.toN) (some (c.sub l.toN)),S)|none=>none
    |some m=>
     match m.bF,hi with
     |none,_=>none|_,none=>none|some m,some _=>
      match(B.and (gW l h m) (m.le c.toZ)).cj S with
      |some S=>some (.sl b (a.add l.toN) (h.toN.sub l.toN) (some (m.toN.sub l.toN)),S)|none=>none
def xj(t:TypeId)(f:af)(lo hi d:Option af)(S:ai):Option (af×ai):=
 match P.underlying t with
 |some (.array n a)=>
  match f with
  |.ref (.ptr b e)=>
   match ej P a with
   |some 0=>none|some g=>zp n g b e lo hi d S|none=>none
  |_=>none
 |some (.slice a)=>
  match f with
  |.ref (.sl b e len i)=>
   match ej P a with
   |some 1=>BL b e len i lo hi d S|_=>none
  |.atom .cI=>
   match d,ej P a with
   |some _,_=>none|none,none=>none|none,some _=>
    match bound lo (.c 0)with
    |none=>none|some l=>
     match bound hi (.c 0)with
     |none=>none|some h=>
      match(gW l h (.c 0)).cj S with
      |some S=>some (.cI,S)|none=>none
  |_=>none
 |_=>none
def lm(a:af)(n:N)(S:ai):Option (Data×ai):=
 match a with
 |.ref (.sl b e _ _)=>
  match S.read b with
  |some d=>d.sub e n S|none=>none
 |.atom .cI=>some (.gen [],S)|.atom (.str f)=>
  match n with
  |.c n=>some (.gen ((f.data.toList.take n).map fun b=>.int .u8 (.c b.toNat)),S)|.s _=>none
 |_=>none
def Data.zq(d:Data):Bool:=
 match d with
 |.gen l=>zl l|.spot .. =>false|.fc .. =>false|.lim .. =>false|_=>true
def jx(v:af):Option N:=
 match v with
 |.ref (.sl _ _ l _)=>some l|.atom .cI=>some (.c 0)|.atom (.str a)=>some (.c a.size)|_=>none
def zu(b:Nat)(a l:N)(f:Option N)(n:N)(e:Data)(S:ai):Option (af×ai):=
 match f with
 |some C=>
  match C,l,n with
  |.c C,.c l,.c n=>
   match S.read b with
   |none=>none|some d=>
    match Nat.ble (l+n) C&&Nat.ble 1 C with
    |true=>
     match d.over (a.add (.c l)) e S with
     |some (d,S)=>
      match S.write b d with
      |some S=>some (.sl b a (.c (l+n)) f,S)|none=>none
     |none=>none
    |false=>
     match Nat.ble (l+n) C with
     |true=>none|false=>
     match d.sub a (.c l) S with
     |some (d,S)=>
      match d.app e with
      |some d=>some (.sl S.H.length (.c 0) (.c (l+n)) none,(S.new d).2)|none=>none
     |none=>none
  |C,l,n=>
   match((l.add n).le C).test S with
   |none=>none|some (true,S)=>
    match((N.c 1).le C).cj S with
    |none=>none|some S=>
     match S.read b with
     |none=>none|some d=>
      match d.over (a.add l) e S with
      |some (d,S)=>
       match S.write b d with
       |some S=>some (.sl b a (l.add n) (some C),S)|none=>none
      |none=>none
   |some (false,S)=>
    match S.read b with
    |none=>none|some d=>
     match d.sub a l S with
     |some (d,S)=>
      match d.app e with
      |some d=>some (.sl S.H.length (.c 0) (l.add n) none,(S.new d).2)|none=>none
     |none=>none
 |none=>
  match aU b S.H with
  |some ⟨d,m⟩=>
   match m with
   |.own=>
    match(B.and (a.eq (.c 0)) (l.eq (match l with|.c _=>.c d.len|.s _=>.s d.len))).cj S with
    |some S=>
     match d.app e with
     |some d=>some (.sl S.H.length (.c 0) (l.add n) none,((S.kill b).new d).2)|none=>none
    |none=>none
   |_=>none
  |none=>none
def N.fits(n:N):B:=n.le (.c 1099511627776)
def EA(d:Option TypeDesc):Bool:=
 match d with
 |some (.slice _)=>true|some .string=>true|_=>false
def BM(argTypes:List TypeId)(args:List af)(S:ai):Option (af×ai):=
 match argTypes with
 |[t,u]=>
  match zn P t with
  |some (d,1)=>
   match P.info? d,mG P d with
   |none,_=>none|_,none=>none|some i,some _=>
   match Nat.beq i.bytes 0 with
   |true=>none|false=>
   match EA (P.underlying u)with
   |false=>none|true=>
    match args with
    |[f,e]=>
     match jx e with
     |none=>none|some n=>
      match lm e n S with
      |none=>none|some (a,S)=>
       match a.zq with
       |false=>none|true=>
       match f with
       |.atom .cI=>
        match n with
        |.c 0=>some (.cI,S)|n=>
         match(n.ij i.bytes).fits.cj S with
         |some S=>some (.sl S.H.length (.c 0) n none,(S.new a).2)|none=>none
       |.ref (.sl b g l h)=>
        match((l.add n).ij i.bytes).fits.cj S with
        |some S=>zu b g l h n a S|none=>none
       |_=>none
    |_=>none
  |_=>none
 |_=>none
def BN(e:af)(a bytes:Nat)(cs:List af)(S:ai):Option (af×ai):=
 match e with
 |.atom .cI=>
  match((N.c 1).ij bytes).fits.cj S with
  |some S=>some (.sm S.H.length (.c 1) a,(S.new (.gen cs)).2)|none=>none
 |.ref (.sm b l f)=>
  match Nat.beq f a with
  |false=>none|true=>
   match aU b S.H with
   |some ⟨d,m⟩=>
    match m with
    |.own=>
     match((l.ij a).eq (match l with|.c _=>.c d.len|.s _=>.s d.len)).cj S with
     |some S=>
      match((l.add (.c 1)).ij bytes).fits.cj S with
      |some S=>
       match d.app (.gen cs)with
       |some d=>some (.sm S.H.length (l.add (.c 1)) a,((S.kill b).new d).2)|none=>none
      |none=>none
     |none=>none
    |_=>none
   |none=>none
 |_=>none
def Il(a:af)(d:Nat)(S:ai):Option (List af):=
 match a with
 |.ref (.sl b e l _)=>
  match e,l with
  |.c 0,.c 1=>
   match S.read b with
   |some (.gen cs)=>
    match Nat.beq cs.length d&&zl cs with
    |true=>some cs|false=>none
   |_=>none
  |_,_=>none
 |_=>none
def Im(argTypes:List TypeId)(args:List af)(S:ai):Option (af×ai):=
 match argTypes with
 |[t,u]=>
  match zn P t with
  |some (b,a)=>
   match Nat.ble 2 a with
   |false=>none|true=>
   match P.info? b,mG P b with
   |none,_=>none|_,none=>none|some i,some _=>
   match Nat.beq i.bytes 0 with
   |true=>none|false=>
   match EA (P.underlying u)with
   |false=>none|true=>
    match args with
    |[c,d]=>
     match Il d a S with
     |some cs=>BN c a i.bytes cs S|none=>none
    |_=>none
  |none=>none
 |_=>none
def BO(argTypes:List TypeId)(args:List af)(S:ai):Option (af×ai):=
 match BM P argTypes args S with
 |some r=>some r|none=>Im P argTypes args S
def zv(argTypes:List TypeId)(args:List af)(S:ai):Option (af×ai):=
 match argTypes with
 |t::_=>
  match zn P t with
  |some (_,1)=>
   match args with
   |[d,e]=>
    match jx d with
    |none=>none|some l=>
     match jx e with
     |none=>none|some m=>
      match lm e (m.min l) S with
      |none=>none|some (f,S)=>
       match f.zq with
       |false=>none|true=>
        match d with
        |.ref (.sl b g _ _)=>
         match S.read b with
         |none=>none|some a=>
          match a.over g f S with
          |some (a,S)=>
           match S.write b a with
           |some S=>some (.int .i64 (m.min l).toZ,S)|none=>none
          |none=>none
        |.atom .cI=>some (.int .i64 (.c 0),S)|_=>none
   |_=>none
  |_=>none
 |[]=>none
def xk(a:TypeId)(n:N):Option Data:=
 match n with
 |.c n=>
  match mG P a with
  |some z=>some (.gen ((List.replicate n z).flatten))|none=>none
 |.s n=>
  match mG P a with
  |some [z]=>
   match z with
   |.num (.int k (.c z))=>
    match kM z 0 with
    |false=>none|true=>
     match k with
     |.u8=>some (.ag (U.zero 8 n))|.u32=>some (.eY (U.zero 32 n))|.u64=>some (.bt (U.zero 64 n))|_=>none
   |_=>none
  |_=>none
def tg(t:TypeId)(l c:af)(S:ai):Option (af×ai):=
 match P.underlying t with
 |some (.slice a)=>
  match P.info? a with
  |none=>none|some i=>
   match Nat.beq i.size 0 with
   |true=>none|false=>
    match l.bF with
    |none=>none|some l=>
     match c.bF with
     |none=>none|some c=>
      match(gW l c (.c 1099511627776)).cj S with
      |none=>none|some S=>
       match(c.toN.ij i.bytes).fits.cj S with
       |none=>none|some S=>
        match xk P a c.toN with
        |some d=>some (.sl S.H.length (.c 0) l.toN (some c.toN),(S.new d).2)|none=>none
 |_=>none
def EB:List af→Bool
 |[]=>true|a::r=>
  match a with
  |.num n=>
   match n with
   |.int k z=>
    match k with
    |.u64=>
     match z with
     |.c z=>
      match kM z 0 with
      |true=>EB r|false=>false
     |.s _=>false
    |_=>false
   |_=>false
  |_=>false
def EC(t:TypeId)(l c:af)(S:ai):Option (af×ai):=
 match P.underlying t with
 |some (.slice a)=>
  match P.info? a with
  |none=>none|some i=>
   match mG P a with
   |none=>none|some z=>
    match EB z&&Nat.blt 0 i.size with
    |false=>none|true=>
     match l.bF with
     |none=>none|some l=>
      match c.bF with
      |none=>none|some c=>
       match(gW l c (.c 1099511627776)).cj S with
       |none=>none|some S=>
        match(c.toN.ij i.bytes).fits.cj S with
        |none=>none|some S=>some (.ref (.sm S.H.length l.toN i.size),(S.new (.bt (U.zero 64 (c.toN.v*i.size)))).2)
 |_=>none
def BP(t:TypeId)(l c:af)(S:ai):Option (af×ai):=
 match tg P t l c S with
 |some r=>some r|none=>EC P t l c S
def rS(cells:List af):List (Nat×Nat×af)→Option (List af)
 |[]=>some cells|(b,size,v)::r=>
  match v.row with
  |some a=>
   match Nat.beq a.length size with
   |true=>
    match nj a b cells with
    |some cells=>rS cells r|none=>none
   |false=>none
  |none=>none
def Io(t:TypeId)(parts:List (Nat×af)):Option af:=
 match mG P t with
 |none=>none|some z=>
  match P.underlying t with
  |some (.struct fields)=>
   match cU (fun(f:Field)=>(ej P f.type).map fun a=>(f.offset,a)) fields.toList with
   |some places=>
    match cU (fun(p:Nat×af)=>(aU p.1 places).map fun q=>(q.1,q.2,p.2)) parts with
    |some b=>(rS z b).map .agg|none=>none
   |none=>none
  |some (.array _ c)=>
   match ej P c with
   |some a=>(rS z (parts.map fun p=>(p.1*a,a,p.2))).map .agg|none=>none
  |_=>none
def th(t:TypeId)(len:Nat)(parts:List (Nat×af))(S:ai):Option (af×ai):=
 match zn P t with
 |some (b,a)=>
  match Nat.beq (len*a) 0 with
  |true=>none|false=>
   match Nat.ble (len*a) (2^24)with
   |false=>none|true=>
    match mG P b with
    |some z=>
     match rS ((List.replicate len z).flatten) (parts.map fun p=>(p.1*a,a,p.2))with
     |some l=>some (.sl S.H.length (.c 0) (.c len) (some (.c len)),(S.new (.gen l)).2)|none=>none
    |none=>none
 |none=>none
def partOf(t:TypeId)(a:List af)(b:Nat):Option af:=
 match nk P t with
 |none=>none|some true=>
  match ej P t with
  |some c=>(tf c b a).map .agg|none=>none
 |some false=>aU b a
def Ip(t:TypeId)(b:af)(f:Nat):Option af:=
 match P.underlying t with
 |some (.struct fields)=>
  match b with
  |.agg c=>
   match aU f fields.toList with
   |some a=>partOf P a.type c a.offset|none=>none
  |_=>none
 |_=>none
def Iq(t:TypeId)(e:af)(f:Nat):Option af:=
 match P.underlying t with
 |some (.struct fields)=>
  match aU f fields.toList with
  |some a=>
   match ej P a.type with
   |some 0=>none|some _=>
    match e with
    |.ref (.ptr b d)=>some (.ptr b (d.add (.c a.offset)))|.ref (.eE b d)=>some (.eE b (d.add (.c a.offset)))|_=>none
   |none=>none
  |none=>none
 |_=>none
def Ir(a:ByteArray)(k:Int):BitVec 8:=BitVec.ofNat 8 (a.data.toList.getD k.toNat 0).toNat
def zw(t:TypeId)(e i:af)(S:ai):Option (af×ai):=
 match i.bF with
 |none=>none|some z=>
  match P.underlying t with
  |some (.array n d)=>
   match e with
   |.agg f=>
    match z with
    |.c z=>
     match kL 0 z&&Ew z n with
     |true=>
      match ej P d with
      |some a=>(partOf P d f (z.toNat*a)).map (·,S)|none=>none
     |false=>none
    |.s k=>
     match ej P d with
     |none=>none|some a=>
      match nk P d with
      |some false=>
       match cU af.fE f with
       |none=>none|some l=>
        match Nat.beq a 1&&Nat.beq l.length n with
        |true=>
         match(jS (.s k) (.c n)).cj S with
         |some S=>some (.au (l.getD k.toNat 0#64),S)|none=>none
        |false=>none
      |_=>none
   |_=>none
  |some .string=>
   match e with
   |.atom (.str a)=>
    match z with
    |.c z=>
     match kL 0 z with
     |true=>
      match aU z.toNat a.data.toList with
      |some b=>some (.int .u8 (.c b.toNat),S)|none=>none
     |false=>none
    |.s k=>
     match(jS (.s k) (.c a.size)).cj S with
     |some S=>some (.bQ (Ir a k),S)|none=>none
   |_=>none
  |_=>none
def zx(t:TypeId)(a:af)(S:ai):Option (af×ai):=
 match P.underlying t with
 |some (.array n _)=>
  match n with
  |0=>none|n=>
   match a with
   |.ref (.sl b d l _)=>
    match(N.le (.c n) l).cj S with
    |some S=>some (.ptr b d,S)|none=>none
   |_=>none
 |_=>none
def Is(argTypes:List TypeId)(args:List af):Option af:=
 match argTypes with
 |t::_=>
  match args with
  |a::_=>
   match P.underlying t with
   |some (.array n _)=>some (.int .i64 (.c n))|some (.slice _)=>
    match a with
    |.ref (.sl _ _ l _)=>some (.int .i64 l.toZ)|.ref (.gs _ _ l)=>some (.int .i64 l.toZ)|.ref (.sm _ l _)=>some (.int .i64 l.toZ)|.atom .cI=>some (.int .i64 (.c 0))|_=>none
   |some .string=>
    match a with
    |.atom (.str b)=>some (.int .i64 (.c b.size))|_=>none
   |_=>none
  |[]=>none
 |[]=>none
def It(argTypes:List TypeId)(args:List af):Option af:=
 match argTypes with
 |t::_=>
  match args with
  |a::_=>
   match P.underlying t with
   |some (.array n _)=>some (.int .i64 (.c n))|some (.slice _)=>
    match a with
    |.ref (.sl _ _ _ (some c))=>some (.int .i64 c.toZ)|.atom .cI=>some (.int .i64 (.c 0))|_=>none
   |_=>none
  |[]=>none
 |[]=>none
def min2(d:Bool)(e f:af):Option af:=
 match e with
 |.num (.int k a)=>
  match f with
  |.num (.int g b)=>
   match rQ k g with
   |false=>none|true=>
    match(if d then a.lt b else b.lt a)with
    |.c t=>some (.int k (match t with|true=>b|false=>a))
    |.s t=>some (.int k (.s (if t then b.v else a.v)))
  |_=>none
 |_=>none
def Iu(d c:bh):Option B:=
 match d with
 |.int k a=>
  match c with
  |.int e b=>
   match rQ k e with
   |true=>some (a.eq b)|false=>none
  |.bQ c=>(bh.int k a).fD.map fun d=>.s (d==c)|.cX c=>(bh.int k a).mC.map fun d=>.s (d==c)|.aD c=>(bh.int k a).iq.map fun d=>.s (d==c)|.au c=>(bh.int k a).fE.map fun d=>.s (d==c)
 |.bQ d=>c.fD.map fun c=>.s (d==c)|.cX d=>c.mC.map fun c=>.s (d==c)|.aD d=>c.iq.map fun c=>.s (d==c)|.au d=>c.fE.map fun c=>.s (d==c)
def Iv(a b:af):Option B:=
 match a with
 |.num a=>
  match b with
  |.num b=>Iu a b|_=>none
 |_=>none
def uR:List af→List af→Option B
 |[],d=>match d with|[]=>some (.c true)|_=>none
 |e::f,d=>
  match d with
  |[]=>none|g::d=>
   match Iv e g with
   |none=>none|some a=>
    match uR f d with
    |none=>none|some b=>some (B.and a b)
def Ov(e d:B):B:=
 match e with
 |.c a=>
  match d with
  |.c b=>.c (a==b)|.s b=>.s (a==b)
 |.s a=>.s (a==d.v)
def Ow(t:TypeId)(g d:af):Option B:=
 match g with
 |.agg e=>
  match d with
  |.agg h=>
   match P.underlying t with
   |some (.array n f)=>
    match P.underlying f with
    |some (.int _)=>
     match ej P f with
     |some 1=>
      match Nat.beq e.length n with
      |true=>uR e h|false=>none
     |_=>none
    |_=>none
   |_=>none
  |_=>none
 |.atom (.bool a)=>
  match d with
  |.atom (.bool b)=>
   match P.underlying t with
   |some .bool=>some (Ov a b)|_=>none
  |_=>none
 |.atom .fC=>
  match d with
  |.obj (.ig _) _=>
   match P.underlying t with
   |some (.interface _)=>some (.c false)|_=>none
  |_=>none
 |.obj (.ig _) _=>
  match d with
  |.atom .fC=>
   match P.underlying t with
   |some (.interface _)=>some (.c false)|_=>none
  |_=>none
 |_=>none
end
end
section
inductive dJ where
 |normal|exit (id:Nat)|ret
structure aI where
 vars:List af
 tmps:List (Nat×af)
structure WK where
 v:af
 H:List ah
 dec:List Bool
 cond:List Bool
abbrev Spec:=List af→List ah→List Bool→Option WK
abbrev cP:=aI→ai→Option (dJ×aI×ai)
structure eK where
 P:Program
 dB:Nat→Option (List af)
 aj:FuncId→Nat
 eF:FuncId→List Nat
 dyn:FuncId→Nat→Bool
 spec:FuncId→Option Spec
 loop:FuncId→Nat→Option cP
 scope:FuncId→Bool
 gv:Nat→String→Option FuncId
 ext:FuncId→List af→Option af:=fun _ _=>none
def kO(t:Nat):List (Nat×af)→af
 |[]=>.aa|(k,v)::r=>
  match Nat.beq k t with
  |true=>v|false=>kO t r
def aI.get(aj:Nat)(a:aI)(t:Nat):af:=
 match Nat.blt t aj with
 |true=>
  match aU t a.vars with
  |some v=>v|none=>.aa
 |false=>kO t a.tmps
def aI.put(aj:Nat)(a:aI)(d:Option Nat)(v:af):aI:=
 match d with
 |none=>a|some t=>
  match Nat.blt t aj with
  |true=>{a with vars:=fe v t a.vars}
  |false=>{a with tmps:=(t,v)::a.tmps}
def oG(t:Nat):List Nat→Bool
 |[]=>false|a::r=>
  match Nat.beq a t with
  |true=>true|false=>oG t r
def tj(a:List Nat):List (Nat×af)→List (Nat×af)
 |[]=>[]|(k,v)::r=>
  match oG k a with
  |true=>(k,v)::tj a r|false=>tj a r
def Iw(b:Nat)(a:List Nat):List Nat:=
 match oG b a with
 |true=>a|false=>a++[b]
def WL(r:Ref)(a:List Nat):List Nat:=
 match r with
 |.ptr b _=>Iw b a|.sl b _ _ _=>Iw b a|.eE _ _=>a|.gs _ _ _=>a|.sm b _ _=>Iw b a
mutual
def WM:af→List Nat→List Nat|.num _,a=>a|.ref r,a=>WL r a|.atom _,a=>a|.agg b,a=>uS b a|.obj _ b,a=>uS b a
def uS:List af→List Nat→List Nat|[],a=>a|v::r,a=>uS r (WM v a)
end
def qB(b:Nat):List Nat→Nat→Option Nat
 |[],_=>none|a::r,i=>
  match Nat.beq a b with
  |true=>some i|false=>qB b r (i+1)
def toR(d:List Nat)(r:Ref):Option Ref:=
 match r with
 |.ptr b a=>
  match qB b d 0 with
  |some i=>some (.ptr i a)|none=>none
 |.sl b a l c=>
  match qB b d 0 with
  |some i=>some (.sl i a l c)|none=>none
 |.eE g a=>some (.eE g a)|.gs g a l=>some (.gs g a l)|.sm b l e=>
  match qB b d 0 with
  |some i=>some (.sm i l e)|none=>none
mutual
def toV(c:List Nat):af→Option af
 |.num n=>some (.num n)|.ref r=>
  match toR c r with
  |some r=>some (.ref r)|none=>none
 |.atom a=>some (.atom a)|.agg b=>
  match toL c b with
  |some b=>some (.agg b)|none=>none
 |.obj t b=>
  match toL c b with
  |some b=>some (.obj t b)|none=>none
def toL(a:List Nat):List af→Option (List af)
 |[]=>some []|v::r=>
  match toV a v with
  |some v=>
   match toL a r with
   |some r=>some (v::r)|none=>none
  |none=>none
end
def toD(a:List Nat)(d:Data):Option Data:=
 match d with
 |.gen l=>
  match toL a l with
  |some l=>some (.gen l)|none=>none
 |.spot n c b=>
  match toV a b with
  |some b=>some (.spot n c b)|none=>none
 |.fc l t=>
  match toL a t with
  |some t=>some (.fc l t)|none=>none
 |d=>some d
def WN(f:Nat→Nat)(r:Ref):Ref:=
 match r with
 |.ptr b a=>.ptr (f b) a|.sl b a l c=>.sl (f b) a l c|.eE g a=>.eE g a|.gs g a l=>.gs g a l|.sm b l d=>.sm (f b) l d
mutual
def oH(f:Nat→Nat):af→af|.num n=>.num n|.ref r=>.ref (WN f r)|.atom a=>.atom a|.agg b=>.agg (lR f b)|.obj t b=>.obj t (lR f b)
def lR(f:Nat→Nat):List af→List af|[]=>[]|v::r=>oH f v::lR f r
end
def Data.refs(d:Data)(a:List Nat):List Nat:=
 match d with
 |.gen l=>uS l a|.spot _ _ b=>uS [b] a|.fc _ t=>uS t a|_=>a
def Data.iH(f:Nat→Nat)(d:Data):Data:=
 match d with
 |.gen l=>.gen (lR f l)|.spot n a b=>.spot n a (oH f b)|.fc l t=>.fc l (lR f t)|d=>d
def ja(a:List ah)(b:Nat):ah:=
 match aU b a with
 |some k=>k|none=>⟨.gen [],.bn⟩
def Ix(c:List ah):Nat→Nat→List Nat→List Nat
 |0,_,a=>a|n+1,i,a=>
  match aU i a with
  |none=>a|some b=>Ix c n (i+1) ((ja c b).data.refs a)
def xl(a:List ah)(c:List Nat):List Nat→Option (List ah)
 |[]=>some []|b::r=>
  match aU b a with
  |none=>none|some ⟨d,m⟩=>
   match toD c d with
   |none=>none|some d=>
    match xl a c r with
    |some e=>some (⟨d,m⟩::e)|none=>none
def xm(a:List Nat)(base:Nat)(i:Nat):Nat:=
 match aU i a with
 |some b=>b|none=>base+(i-a.length)
def uT(f:Nat→Nat):List ah→List ah|[]=>[]|⟨d,m⟩::a=>⟨d.iH f,m⟩::uT f a
def uU(f:Nat→Nat):List Nat→List ah→List ah→Option (List ah)
 |[],c,a=>some (a++uT f c)|_::_,[],_=>none|b::e,⟨d,m⟩::c,a=>
  match(ja a b).mode with
  |.own=>uU f e c (fe ⟨d.iH f,m⟩ b a)|_=>uU f e c a
def zy(a:List ah):List Nat→Nat→Nat
 |[],l=>l|b::c,l=>
  match(ja a b).mode with
  |.own=>zy a c (Nat.min l b)|_=>zy a c l
def BQ:List Nat→Bool
 |[]=>true|a::r=>
  match oG a r with
  |true=>false|false=>BQ r
def BR(c:Spec)(args:List af)(S:ai):Option (af×ai):=
 let a:=Ix S.H 100 0 (uS args [])
 match BQ a with
 |false=>none|true=>
  match toL a args with
  |none=>none|some args=>
   match xl S.H a a with
   |none=>none|some b=>
    match c args b S.dec with
    |none=>none|some r=>
     let f:=xm a S.H.length
     match uU f a r.H S.H with
     |none=>none|some b=>some (oH f r.v,{H:=b,low:=zy S.H a S.low,dec:=r.dec,cond:=r.cond++S.cond})
section
variable(C:eK)
def aI.ev(aj:Nat)(a:aI)(b:Operand):af:=
 match b with
 |.tmp t=>a.get aj t|.const v=>xe v|.global g=>.eE (2*g) (.c 0)|.func f=>.fn (.func f) [] []
def isConst:Operand→Bool|.const _=>true|_=>false
def lS(ev:Operand→af):List Operand→List af|[]=>[]|a::r=>ev a::lS ev r
def oI(ev:Operand→af):Option Operand→Option af|none=>none|some a=>some (ev a)
def pO(ev:Operand→af):List (Nat×Operand)→List (Nat×af)|[]=>[]|(i,a)::r=>(i,ev a)::pO ev r
def val(S:ai):Option af→Option (af×ai)|none=>none|some v=>some (v,S)
def ED(v:af):Bool:=
 match v with
 |.atom .fC=>true|_=>false
def BS(P:Program)(t:TypeId)(k:Bool)(a b:af):Option B:=
 match ED a&&ED b with
 |true=>
  match k with
  |true=>
   match P.underlying t with
   |some (.interface _)=>some (.c true)|_=>none
  |false=>none
 |false=>Ow P t a b
def zz(P:Program)(c:BinOp)(t:TypeId)(d e:Operand)(a b:af)(S:ai):Option (af×ai):=
 match binop c a b S with
 |some r=>some r|none=>
  match BS P t (isConst d||isConst e) a b with
  |none=>none|some r=>
   match c with
   |.eql=>some (.bool r,S)|.neq=>some (.bool r.not,S)|_=>none
def BT(P:Program)(b:Builtin)(argTypes:List TypeId)(args:List af)(S:ai):Option (af×ai):=
 match b with
 |.len=>val S (Is P argTypes args)|.cap=>val S (It P argTypes args)|.append=>BO P argTypes args S|.copy=>zv P argTypes args S|.min=>
  match args with
  |[a,c]=>val S (min2 false a c)|_=>none
 |.max=>
  match args with
  |[a,c]=>val S (min2 true a c)|_=>none
 |_=>none
def BU(c a b:af)(S:ai):Option (af×ai):=
 match c with
 |.atom (.bool t)=>
  match t.test S with
  |some (true,S)=>some (a,S)|some (false,S)=>some (b,S)|none=>none
 |_=>none
def BV(a:TypeId)(S:ai):Option (af×ai):=
 match mG C.P a with
 |some z=>some (.ptr S.H.length (.c 0),(S.new (.gen z)).2)|none=>none
def BW(v:af)(S:ai):Option (af×ai):=
 match v.row with
 |some l=>some (.ptr S.H.length (.c 0),(S.new (.gen l)).2)|none=>none
def EE(r:Option ai):Option (af×ai):=
 match r with
 |some S=>some (.aa,S)|none=>none
def BX(gv:Nat→String→Option FuncId)(v:af)(S:ai):Option (af×ai):=
 match v with
 |.ref (.ptr b a)=>some (.ptr b a,S)|.ref (.eE b a)=>some (.eE b a,S)|.obj c d=>
  match c with
  |.fn f n=>
   match f with
   |.method name=>
    match n with
    |1=>
     match d with
     |[e]=>
      match e with
      |.obj g h=>
       match g with
       |.ig t=>
        match h with
        |[i]=>
         match i with
         |.ref (.ptr b a)=>
          match gv t name with
          |some _=>some (.obj (.fn (.method name) 1) [.obj (.ig t) [.ref (.ptr b a)]],S)|none=>none
         |_=>none
        |_=>none
       |_=>none
      |_=>none
     |_=>none
    |_=>none
   |_=>none
  |_=>none
 |_=>none
def zA(a:TypeId)(same:Bool)(v:af)(S:ai):Option (af×ai):=
 match same with
 |false=>none|true=>
  match C.P.underlying a with
  |some (.int .u8)=>
   match v with
   |.ref (.sl b _ (.c (_+1)) _)=>
    match aU b S.H with
    |some ⟨.lim ..,.own⟩=>none|some ⟨_,.own⟩=>some (v,S)|_=>none
   |_=>none
  |_=>none
def zB(a b:TypeId)(v:af)(S:ai):Option (af×ai):=
 match C.P.underlying a with
 |none=>none|some _=>
  match C.P.underlying b with
  |some (.int k)=>xh v k S|some (.slice c)=>zA C c (Nat.beq a b) v S|_=>none
def BY(t:TypeId)(v:af)(S:ai):Option (af×ai):=
 match C.P.underlying t with
 |some (.interface _)=>none|none=>none|some _=>some (.ig t v,S)
def BZ(v:af)(i:Nat)(S:ai):Option (af×ai):=
 match v with
 |.obj .bx a=>val S (aU i a)|_=>none
def xo(c:Call)(ev:Operand→af)(S:ai):Option (af×ai):=
 match c.callee with
 |.builtin b=>BT C.P b c.argTypes.toList (lS ev c.args.toList) S|_=>none
inductive Iy where
 |run (f:(Operand→af)→ai→Option (af×ai))|call (c:Call)
def nq(e:Op):Iy:=
 match e with
 |.move d=>.run fun ev S=>some (ev d,S)|.assign d=>.run fun ev S=>some (ev d,S)|.pick c a b=>.run fun ev S=>BU (ev c) (ev a) (ev b) S|.alloc j=>.run fun _ S=>BV C j S|.box _ v=>.run fun ev S=>BW (ev v) S|.build t g=>.run fun ev S=>val S (Io C.P t (pO ev g.toList))|.buildSlice t n g=>.run fun ev S=>th C.P t n (pO ev g.toList) S|.load t a=>.run fun ev S=>oF C.P C.dB t (ev a) S|.store t a d=>.run fun ev S=>EE (zm C.P t (ev a) (ev d) S)|.nilCheck d=>.run fun ev S=>BX C.gv (ev d) S|.binOp e t d h _=>.run fun ev S=>zz C.P e t d h (ev d) (ev h) S|.unOp e _ d=>.run fun ev S=>val S (unop e (ev d))|.convert k m d=>.run fun ev S=>zB C k m (ev d) S|.sliceToArrayPointer t d=>.run fun ev S=>zx C.P t (ev d) S|.makeInterface t d=>.run fun ev S=>BY C t (ev d) S|.makeFunc f a b=>.run fun ev S=>some (.fn f (lS ev a.toList) (lS ev b.toList),S)|.makeSlice t l c=>.run fun ev S=>BP C.P t (ev l) (ev c) S|.slice t d lo hi o=>.run fun ev S=>xj C.P t (ev d) (oI ev lo) (oI ev hi) (oI ev o) S|.fieldAddr t d f=>.run fun ev S=>val S (Iq C.P t (ev d) f)|.field t d f=>.run fun ev S=>val S (Ip C.P t (ev d) f)|.indexAddr t d i=>.run fun ev S=>zo C.P t (ev d) (ev i) S|.index t d i=>.run fun ev S=>zw C.P t (ev d) (ev i) S|.extract t i=>.run fun ev S=>BZ (ev t) i S|.call c=>.call c|_=>.run fun _ _=>none
def callee(ev:Operand→af)(c:Call):Option (FuncId×List af):=
 match c.callee with
 |.value f=>
  match ev f with
  |.obj (.fn (.func f) n) a=>some (f,a.take n++lS ev c.args.toList++a.drop n)|_=>none
 |.invoke r m=>
  match ev r with
  |.obj (.ig t) [v]=>
   match C.gv t m with
   |some f=>some (f,v::lS ev c.args.toList)|none=>none
  |_=>none
 |.builtin _=>none
def mH(a:List Oper)(ev:Operand→af)(g:Option (Nat×Bool))(S:ai):Option (Bool×ai):=
 match g with
 |none=>some (true,S)|some (j,c)=>
  match aU j a with
  |none=>none|some e=>
   match e.dst with
   |none=>none|some d=>
    match ev (.tmp d)with
    |.atom (.bool b)=>
     match b.test S with
     |some (t,S)=>some (t==c,S)|none=>none
    |.obj .bx []=>some (false,S)|_=>none
abbrev gf:=FuncId→List af→ai→Option (af×ai)
def B0:Callee→Bool|.builtin _=>true|_=>false
def uV(c:Call)(call:gf)(ev:Operand→af)(S:ai):Option (af×ai):=
 match B0 c.callee with
 |true=>xo C c ev S|false=>
  match callee C ev c with
  |some (f,args)=>
   match C.ext f args with
   |some v=>some (v,S)|none=>call f args S
  |none=>none
def ee(call:gf)(ev:Operand→af)(a:Op)(S:ai):Option (af×ai):=
 match nq C a with
 |.run f=>f ev S|.call c=>uV C c call ev S
def tn(call:gf)(aj:Nat)(c:List Oper):List Oper→aI→ai→Option (aI×ai)
 |[],a,S=>some (a,S)|b::r,a,S=>
  match mH c (a.ev aj) b.guard S with
  |none=>none|some (false,S)=>tn call aj c r (a.put aj b.dst (.obj .bx [])) S|some (true,S)=>
   match ee C call (a.ev aj) b.op S with
   |none=>none|some (v,S)=>tn call aj c r (a.put aj b.dst v) S
inductive g5 where
 |load (b:Nat)|xp (low:Nat)|one (b:Nat)|cell (b o:Nat)|span (b p q:Nat)
def rT(v:af):Option Nat:=
 match v with
 |.ref (.ptr b _)=>some b|_=>none
def EF(v:af):Option Nat:=
 match v with
 |.ref (.sl b _ _ _)=>some b|_=>none
def B1(P:Program)(t:TypeId):Bool:=
 match P.underlying t with
 |some (.array _ _)=>true|_=>false
def mI(P:Program)(ev:Operand→af)(b:Op):Option Nat:=
 match b with
 |.load _ a=>rT (ev a)|.slice t a _ _ _=>
  match B1 P t with
  |true=>rT (ev a)|false=>none
 |.convert c d e=>
  match Nat.beq c d with
  |true=>EF (ev e)|false=>none
 |_=>none
def bJ:Nat:=1000000000
def kP:Op→Bool
 |.store .. =>true|.call c=>
  match c.callee with
  |.builtin b=>
   match b with
   |.len|.cap|.min|.max=>false|_=>true
  |_=>true
 |.box .. =>true|_=>false
def gh:Op→Bool|.alloc _=>true|.makeSlice .. =>true|.buildSlice .. =>true|_=>false
def tq(ev:Operand→af)(f:Op)(bF:Nat)(S:ai):Option (af×ai):=
 match f with
 |.alloc g=>
  match mG C.P g with
  |some z=>some (.ptr bF (.c 0),{S with H:=fe ⟨.gen z,.own⟩ bF S.H})
  |none=>none
 |.makeSlice t l c=>
  match tg C.P t (ev l) (ev c) {S with H:=[]}with
  |some (b,a)=>
   match b,a.H with
   |.ref (.sl _ d n e),[k]=>some (.sl bF d n e,{a with H:=fe k bF S.H})
   |_,_=>none
  |none=>none
 |.buildSlice t n h=>
  match th C.P t n (pO ev h.toList) {S with H:=[]}with
  |some (b,a)=>
   match b,a.H with
   |.ref (.sl _ d m e),[k]=>some (.sl bF d m e,{a with H:=fe k bF S.H})
   |_,_=>none
  |none=>none
 |_=>none
def iI(dyn:Bool)(S:ai):ai:=
 match dyn with
 |true=>{S with low:=bJ}
 |false=>S
def EG(dyn:Bool)(S a:ai):ai:=
 match dyn with
 |true=>{a with low:=Nat.min S.low a.low}
 |false=>a
def B2(ev:Operand→af)(b:Op):Option Nat:=
 match b with
 |.store _ a _=>rT (ev a)|_=>none
def tr(P:Program)(ev:Operand→af)(e:Op)(S:ai):Option (Nat×Nat):=
 match e with
 |.load t a=>
  match nk P t with
  |some false=>
   match ev a with
   |.ref (.ptr b (.c d))=>
    match aU b S.H with
    |some ⟨.gen l,_⟩=>
     match aU d l with
     |some _=>some (b,d)|none=>none
    |_=>none
   |_=>none
  |_=>none
 |_=>none
def Iz(a:af):Bool:=
 match a with
 |.ref (.sl _ _ (.s _) _)=>true|.atom .cI=>true|_=>false
def rU(ev:Operand→af)(a:Op)(S:ai):Option (Nat×Nat×Nat):=
 match a with
 |.call c=>
  match c.callee with
  |.builtin e=>
   match e with
   |.copy=>
    match c.args.toList with
    |[d,f]=>
     match ev d with
     |.ref (.sl b _ _ _)=>
      match Iz (ev f)with
      |true=>
       match aU b S.H with
       |some ⟨.gen l,_⟩=>
        match(Data.gen l).words with
        |some _=>none|none=>
         match mE l with
         |(pre,r)=>
          match oE r with
          |(ws,_)=>some (b,pre.length,pre.length+ws.length)
       |_=>none
      |false=>none
     |_=>none
    |_=>none
   |_=>none
  |_=>none
 |_=>none
def oJ(P:Program)(dyn:Bool)(ev:Operand→af)(a:Op)(S c:ai):Option g5:=
 match dyn with
 |false=>none|true=>
  match kP a with
  |true=>
   match B2 ev a with
   |some b=>some (.one b)|none=>
    match rU ev a S with
    |some (b,p,q)=>some (.span b p q)|none=>some (.xp (Nat.min c.low S.H.length))
  |false=>
   match tr P ev a S with
   |some (b,d)=>some (.cell b d)|none=>
    match mI P ev a with
    |some b=>some (.load b)|none=>none
def stepW(call:gf)(aj:Nat)(dyn:Bool)(d:List Oper)(bF:Nat)(a:Oper)(b:aI)(S:ai):Option (aI×ai×Option g5):=
 match mH d (b.ev aj) a.guard S with
 |none=>none|some (false,S)=>some (b.put aj a.dst (.obj .bx []),S,none)|some (true,S)=>
  match gh a.op with
  |true=>
   match tq C (b.ev aj) a.op bF S with
   |none=>none|some (v,S)=>some (b.put aj a.dst v,S,none)
  |false=>
   match ee C call (b.ev aj) a.op (iI dyn S)with
   |none=>none|some (v,c)=>some (b.put aj a.dst v,EG dyn S c,oJ C.P dyn (b.ev aj) a.op S c)
def EH(a:Oper)(bF:Nat):Nat:=
 match gh a.op with
 |true=>bF+1|false=>bF
def B3(i:Nat)(a:Option g5)(b:List (Nat×g5)):List (Nat×g5):=
 match a with
 |some a=>(i,a)::b|none=>b
def uW(call:gf)(aj:Nat)(dyn:Bool)(b:List Oper):List Oper→Nat→Nat→aI→ai→Option (aI×ai×List (Nat×g5))
 |[],_,_,a,S=>some (a,S,[])|c::r,i,bF,a,S=>
  match stepW C call aj dyn b bF c a S with
  |none=>none|some (a,S,d)=>
   match uW call aj dyn b r (i+1) (EH c bF) a S with
   |none=>none|some (a,S,e)=>some (a,S,B3 i d e)
def iJ:List Oper→Nat
 |[]=>0|a::r=>
  match gh a.op with
  |true=>iJ r+1|false=>iJ r
def mJ:Nat→List ah|0=>[]|n+1=>⟨.gen [],.bn⟩::mJ n
def uX(S:ai)(n:Nat):ai:=
 match n with
 |0=>S|n+1=>{S with H:=S.H++mJ (n+1)}
def zC(b:Nat)(a:g5):Bool:=
 match a with
 |.xp l=>Nat.ble l b|.one c=>Nat.beq c b|.span c _ _=>Nat.beq c b|.load _=>false|.cell .. =>false
def zD(b a:Nat)(d:g5):Bool:=
 match d with
 |.xp l=>Nat.ble l b|.one c=>Nat.beq c b|.span c p q=>Nat.beq c b&&(Nat.ble p a&&Nat.blt a q)|.load _=>false|.cell .. =>false
def Oy(a:g5):Bool:=
 match a with
 |.load _=>true|.cell .. =>true|_=>false
def pP(eZ:Nat→Nat)(i:Nat)(a:g5)(j:Nat)(c:g5):Bool:=
 match a with
 |.load b=>zC b c&& !(eZ j).testBit i|.cell b d=>zD b d c&& !(eZ j).testBit i|a=>
  match c with
  |.load b=>zC b a&& !(eZ j).testBit i|.cell b d=>zD b d a&& !(eZ j).testBit i|_=>false
def clash(eZ:Nat→Nat)(i:Nat)(a:g5):List (Nat×g5)→Bool
 |[]=>false|(j,b)::r=>
  match pP eZ i a j b with
  |true=>true|false=>clash eZ i a r
def zE(eZ:Nat→Nat):List (Nat×g5)→Bool
 |[]=>false|(i,a)::r=>
  match clash eZ i a r with
  |true=>true|false=>zE eZ r
def B4(a:Array Oper)(i:Nat):Nat:=(CheckFast.beforeF a).getD i 0
def bX:Code→Option Nat|.region id _ _=>some id|.seq a _=>bX a|.block _ a=>bX a|.cond _ a _=>bX a|_=>none
structure Env where
 call:gf
 aj:Nat
 Ox:List Nat
 dyn:Nat→Bool
 lo:Nat→Option cP
def B5(id:Nat)(c:List Oper)(eZ:Nat→Nat)(d:Bool)(b:Env)(a:aI)(S:ai):Option (dJ×aI×ai):=
 match d with
 |false=>
  match tn C b.call b.aj c c a S with
  |some (a,S)=>some (.normal,{a with tmps:=tj b.Ox a.tmps},S)
  |none=>none
 |true=>
  match uW C b.call b.aj (b.dyn id) c c 0 S.H.length a (uX S (iJ c))with
  |some (a,S,e)=>
   match zE eZ e with
   |true=>none|false=>some (.normal,{a with tmps:=tj b.Ox a.tmps},S)
  |none=>none
abbrev fS:=Env→aI→ai→Option (dJ×aI×ai)
def OA(a b:fS)(e:Env)(c:aI)(S:ai):Option (dJ×aI×ai):=
 match a e c S with
 |none=>none|some (d,c,S)=>
  match d with
  |.normal=>b e c S|d=>some (d,c,S)
def OB(e:Operand)(a b:fS)(c:Env)(d:aI)(S:ai):Option (dJ×aI×ai):=
 match d.ev c.aj e with
 |.atom (.bool t)=>
  match t.test S with
  |some (true,S)=>a c d S|some (false,S)=>b c d S|none=>none
 |_=>none
def OC(id:Nat)(b:fS)(d:Env)(a:aI)(S:ai):Option (dJ×aI×ai):=
 match b d a S with
 |none=>none|some (c,a,S)=>
  match c with
  |.exit i=>
   match Nat.beq i id with
   |true=>some (.normal,a,S)|false=>some (.exit i,a,S)
  |c=>some (c,a,S)
def IA(e:Option Nat)(b again:fS)(c:Env)(a:aI)(S:ai):Option (dJ×aI×ai):=
 match e.bind c.lo with
 |some f=>f a S|none=>
  match b c a S with
  |none=>none|some (d,a,S)=>
   match d with
   |.normal=>again c a S|d=>some (d,a,S)
structure WO where
 run:fS
def jz:Nat→Code→WO
 |0,_=>⟨fun _ _ _=>none⟩|n+1,c=>
  match c with
  |.skip=>⟨fun _ d S=>some (.normal,d,S)⟩|.region id g h=>⟨B5 C id g.toList (B4 g) h⟩|.seq a b=>⟨OA (fun e d S=>match jz n a with|⟨f⟩=>f e d S) (fun e d S=>match jz n b with|⟨f⟩=>f e d S)⟩
  |.cond i a b=>⟨OB i (fun e d S=>match jz n a with|⟨f⟩=>f e d S) (fun e d S=>match jz n b with|⟨f⟩=>f e d S)⟩
  |.block id b=>⟨OC id (fun e d S=>match jz n b with|⟨f⟩=>f e d S)⟩
  |.loop b=>⟨IA (bX b) (fun e d S=>match jz n b with|⟨f⟩=>f e d S) (fun e d S=>match jz n (.loop b)with|⟨f⟩=>f e d S)⟩
  |.exit id=>⟨fun _ d S=>some (.exit id,d,S)⟩|.ret=>⟨fun _ d S=>some (.ret,d,S)⟩|_=>⟨fun _ _ _=>none⟩
def exec(n:Nat)(c:Code):fS:=fun a b S=>
 match jz C n c with
 |⟨f⟩=>f a b S
def xq(aj:Nat)(b:aI)(S:ai):List ResultVar→Option (List af×ai)
 |[]=>some ([],S)|r::c=>
  match(match r with
   |.tmp t=>some (b.get aj t,S)|.cell a t=>oF C.P C.dB t (b.get aj a) S)with
  |none=>none|some (v,S)=>
   match xq aj b S c with
   |none=>none|some (vs,S)=>some (v::vs,S)
def zF:List af→af|[v]=>v|vs=>.bx vs
def B6(b:Nat)(call:gf)(f:FuncId)(args:List af)(S:ai):Option (af×ai):=
 match C.P.funcs[f]? with
 |none=>none|some fn=>
  match fn.body with
  |none=>none|some c=>
   match C.scope f&&Nat.ble args.length fn.ntmps with
   |false=>none|true=>
   match exec C b c ⟨call,C.aj f,C.eF f,C.dyn f,C.loop f⟩ ⟨args++List.replicate (C.aj f-args.length) .aa,[]⟩ S with
   |some (.normal,a,S)|some (.ret,a,S)=>
    match xq C (C.aj f) a S fn.results.toList with
    |some (vs,S)=>some (zF vs,S)|none=>none
   |_=>none
def uY:Nat→Nat→gf
 |0,_=>fun _ _ _=>none|d+1,a=>fun f args S=>
  match C.spec f with
  |some b=>BR b args S|none=>B6 C a (uY d a) f args S
end
end
section
variable{a:Addr}{c:Nat}{b:World}
class aF where
 main:Bool
 plain:FuncId→Prop
 mine:Nat→Prop
 rd:Nat→Nat→Prop
 jump:Program→Goroutine→World→(Goroutine→World→Prop)→Prop
 shr:Nat→Prop:=fun _=>False
 lim:Nat→Bool→Bool:=fun _ _=>false
def EI(m:Mark):Prop:=Conc.Neutral m∨∃f,m=.extern f
def gm [aF](a:Addr)(wr:Bool):Prop:=a.spot=none∧((aF.mine a.block∧(aF.shr a.block→aF.lim a.off wr=true))∨(wr=false∧aF.rd a.block a.off∧¬aF.shr a.block))
def oK [aF](c:Nat):Prop:=aF.mine c∧¬aF.shr c
def oK.tu [aF](h:oK c)(d:Nat)(wr:Bool):gm ⟨c,d,none⟩ wr:=⟨rfl,.inl ⟨h.1,fun k=>absurd k h.2⟩⟩
section
variable [aF]
open Classical in
def _root_.Go.Sem.aG{Q:Type}(P:Program):Sem Q→World→Result Q
 |.pure a,w=>.ok a w
 |.load m a k,w=>match w.cell? a with
  |some v=>if m=.plain∧gm a false then(k v).aG P w else .halt (.stuck "") w
  |none=>.halt (.stuck "") w
 |.store _ _ (.agg _) _,w|.store _ _ (.tuple _) _,w=>.halt (.stuck "") w
 |.store m a v k,w=>match w.cell? a with
  |some _=>if w.frozen? a then .halt (.stuck "") w else if m=.plain∧gm a true then k.aG P (w.setCell a v)else .halt (.stuck "") w
  |none=>.halt (.stuck "") w
 |.new d k,w=>(k w.heap.size).aG P {w with heap:=w.heap.push d}
 |.shape r k,w=>(k (w.shape? r)).aG P w|.freeze a n k,w=>if aF.shr a.block then .halt (.stuck "") w else k.aG P (w.freeze a n)
 |.frozen a k,w=>(k (w.frozen? a)).aG P w|.getObj _ _,w=>.halt (.stuck "") w|.setObj _ _ _,w=>.halt (.stuck "") w|.choose q k,w=>
  if q.forced then(k 0).aG P w
  else(k (q.cut (w.tape w.drawn q))).aG P {w with drawn:=w.drawn+1}
 |.sys _ _,w=>.halt (.stuck "") w|.program k,w=>(k P).aG P w|.mark m k,w=>if EI m then k.aG P w else .halt (.stuck "") w
 |.halt h,w=>.halt h w
def EJ(B:Nat)(d:Event):Prop:=(∃a wr,d=⟨.cell a,wr,false⟩∧gm a wr∧a.block<B)∨∃m,d=⟨.mark m,false,true⟩∧EI m
def EK(B:Nat)(d:Event):Prop:=(∃a wr,d=⟨.cell a,wr,false⟩∧gm a wr∧a.block<B)∨∃m,d=⟨.mark m,false,true⟩∧Conc.Neutral m
def zG{w:World}{v:Value}(h:w.cell? a=some v):a.block<w.heap.size:=by
 unfold World.cell? at h;split at h
 ·rename_i d;exact(dW.1 d).1
 ·cases h
def IB(w:World)(a:Addr)(v:Value):(w.setCell a v).heap.size=w.heap.size:=by simp[World.setCell]
def IC(w:World)(a:Addr)(n:Nat):(w.freeze a n).heap.size=w.heap.size:=by
 unfold World.freeze;split<;>simp
def WP(P:Program)(fn:FuncId)(i:Array Event):∀d∈seen P fn i,∀f,d.loc≠.mark (.extern f):=by
 rw[Conc.seen_def];have j:∀(q:FuncId→Bool) (l:List Event) (e:Bool×Array Event),(∀d∈e.2,∀f,d.loc≠.mark (.extern f))→∀d∈(l.foldl (Conc.seenStep q) e).2,∀f,d.loc≠.mark (.extern f):=by
  intro q l
  induction l with
  |nil=>intro e h;exact h|cons n l k=>
   intro e h;obtain⟨o,kept⟩:=e;simp only[N8];refine k _ ?_;simp only[Conc.seenStep];split
   ·exact h
   ·rename_i m;split
    ·exact h
    ·intro d g f;rcases Array.mem_push.1 g with g|rfl
     ·exact h d g f
     ·exact m f
 exact j _ _ _ (by simp)
def EJ.seen [aF]{P:Program}{fn:FuncId}{e:Array Event}{B:Nat}(h:∀d∈e,EJ B d):∀d∈Go.seen P fn e,EK B d:=by
 intro d g;rcases h d (Conc.mem_seen g)with h|⟨m,rfl,i|⟨f,rfl⟩⟩
 ·exact .inl h
 ·exact .inr ⟨m,rfl,i⟩
 ·exact absurd rfl (WP P fn e _ g f)
def EL{Q:Type}{P:Program}:∀(i:Sem Q) {w w':World} {v:Q},i.aG P w=.ok v w'→
 i.run P w=.ok v w'∧w.heap.size≤w'.heap.size∧∀j∈i.events P w #[],EJ w'.heap.size j:=by
 intro i
 induction i with
 |pure a=>intro w w' v h;simp only[Sem.aG]at h;cases h;exact⟨rfl,aX _,by simp[Sem.events,Sem.runT, -Sem.runT_eq]⟩
 |load m a k f=>
  intro w w' v h;simp only[Sem.aG]at h;split at h
  case h_2=>cases h
  rename_i u o;split at h
  case isFalse=>cases h
  rename_i g;obtain⟨rfl,g⟩:=g;obtain⟨h1,h2,h3⟩:=f u h;refine⟨by simp only[Sem.run,o];exact h1,h2,?_⟩;have j:(Sem.load .plain a k).events P w #[]=(k u).events P w (#[].push ⟨.cell a,false,false⟩):=by
   simp only[Sem.events,Sem.runT,o];rfl
  rw[j,Sem.events_acc];intro e d;rcases y6.1 d with d|d
  ·simp at d;subst d;exact .inl ⟨a,false,rfl,g,dL (zG o) h2⟩
  ·exact h3 e d
 |store m a v k f=>
  intro w w' u h;cases v with
  |agg e=>simp only[Sem.aG]at h;cases h
  |tuple e=>simp only[Sem.aG]at h;cases h
  |_=>
   simp only[Sem.aG]at h;split at h
   case h_2=>cases h
   rename_i c p;split at h
   ·cases h
   rename_i s;split at h
   case isFalse=>cases h
   rename_i g;obtain⟨rfl,g⟩:=g;obtain⟨h1,h2,h3⟩:=f h;rw[IB]at h2;refine⟨by simp only[Sem.run,p,s];exact h1,h2,?_⟩;intro e d;simp only[Sem.events,Sem.runT,p,s]at d;change e∈Sem.events P k _ _ at d;rw[Sem.events_acc]at d;rcases y6.1 d with d|d
   ·simp at d;subst d;exact .inl ⟨a,true,rfl,g,dL (zG p) h2⟩
   ·exact h3 e d
 |new x k f=>
  intro w w' v h;simp only[Sem.aG]at h;obtain⟨h1,h2,h3⟩:=f _ h;exact⟨by simp only[Sem.run];exact h1,by simp at h2;omega,fun e d=>h3 e (by simpa only[Sem.events,Sem.runT]using d)⟩
 |shape r k f=>intro w w' v h;simp only[Sem.aG]at h;obtain⟨h1,h2,h3⟩:=f _ h;exact⟨by simp only[Sem.run];exact h1,h2,fun e d=>h3 e (by simpa only[Sem.events,Sem.runT]using d)⟩
 |freeze a n k f=>
  intro w w' v h;simp only[Sem.aG]at h;split at h
  ·cases h
  obtain⟨h1,h2,h3⟩:=f h;rw[IC]at h2;exact⟨by simp only[Sem.run];exact h1,h2,fun e d=>h3 e (by simpa only[Sem.events,Sem.runT]using d)⟩
 |frozen a k f=>intro w w' v h;simp only[Sem.aG]at h;obtain⟨h1,h2,h3⟩:=f _ h;exact⟨by simp only[Sem.run];exact h1,h2,fun e d=>h3 e (by simpa only[Sem.events,Sem.runT]using d)⟩
 |getObj r k f=>intro w w' v h;simp only[Sem.aG]at h;cases h
 |setObj r x k f=>intro w w' v h;simp only[Sem.aG]at h;cases h
 |choose q k f=>
  intro w w' v h;simp only[Sem.aG]at h;split at h
  ·rename_i l;obtain⟨h1,h2,h3⟩:=f _ h;exact⟨by simp only[Sem.run,l,gT];exact h1,h2,fun e d=>h3 e (by simpa only[Sem.events,Sem.runT,l,gT]using d)⟩
  ·rename_i l;obtain⟨h1,h2,h3⟩:=f _ h;exact⟨by simp only[Sem.run,l];exact h1,h2,fun e d=>h3 e (by simpa only[Sem.events,Sem.runT,l,m8,ei]using d)⟩
 |sys c k f=>intro w w' v h;simp only[Sem.aG]at h;cases h
 |program k f=>intro w w' v h;simp only[Sem.aG]at h;obtain⟨h1,h2,h3⟩:=f _ h;exact⟨by simp only[Sem.run];exact h1,h2,fun e d=>h3 e (by simpa only[Sem.events,Sem.runT]using d)⟩
 |mark m k f=>
  intro w w' v h;simp only[Sem.aG]at h;split at h
  case isFalse=>cases h
  rename_i g;obtain⟨h1,h2,h3⟩:=f h;refine⟨by simp only[Sem.run];exact h1,h2,fun e d=>?_⟩;have j:(Sem.mark m k).events P w #[]=k.events P w (#[].push ⟨.mark m,false,true⟩):=by simp only[Sem.events,Sem.runT]
  rw[j,Sem.events_acc]at d;rcases y6.1 d with d|d
  ·simp at d;subst d;exact .inr ⟨m,rfl,g⟩
  ·exact h3 e d
 |halt h=>intro w w' v t;simp only[Sem.aG]at t;cases t
def Sem.OD{Q β:Type}(P:Program)(e:Sem Q)(f:Q→Sem β)(w:World):
 (e.bind f).aG P w=(e.aG P w).andThen fun a w'=>(f a).aG P w':=by
 induction e generalizing w with
 |pure a=>simp[Sem.bind,Sem.aG]|load m a k d=>simp only[Sem.bind,Sem.aG];(repeat' split)<;>simp[d]
 |store m a v k d=>
  cases v<;>simp only[Sem.bind,Sem.aG,Result.andThen_halt]<;>(try((repeat' split)<;>simp[d]))
 |new g k d=>simp[Sem.bind,Sem.aG,d]|shape r k d=>simp[Sem.bind,Sem.aG,d]|freeze a n k d=>simp only[Sem.bind,Sem.aG];split<;>simp[d]
 |frozen a k d=>simp[Sem.bind,Sem.aG,d]|getObj r k d=>simp[Sem.bind,Sem.aG]|setObj r g k d=>simp[Sem.bind,Sem.aG]|choose q k d=>simp only[Sem.bind,Sem.aG];split<;>simp[d]
 |sys c k d=>simp[Sem.bind,Sem.aG]|program k d=>simp[Sem.bind,Sem.aG,d]|mark m k d=>simp only[Sem.bind,Sem.aG];split<;>simp[d]
 |halt h=>simp[Sem.bind,Sem.aG]
section
variable{Q β:Type}(P:Program)(w:World)
@[simp] theorem Sem.rV(d:Sem Q) (f:Q→Sem β):(d >>= f).aG P w=(d.aG P w).andThen fun a w'=>(f a).aG P w':=Sem.OD P d f w
@[simp] theorem Sem.aov(d:Sem Q) (f:Q→β):(f <$> d).aG P w=(d.aG P w).andThen fun a w'=>.ok (f a) w':=Sem.OD P d _ w
@[simp] theorem Sem.fT(a:Q):(Pure.pure a:Sem Q).aG P w=.ok a w:=rfl
@[simp] theorem Sem.aow(a:Q):(Sem.pure a).aG P w=.ok a w:=rfl
@[simp] theorem Sem.aox(h:Halt):(Sem.halt h:Sem Q).aG P w=.halt h w:=rfl
@[simp] theorem Sem.aoy(c:Prop) [Decidable c] (d e:Sem Q):(if c then d else e).aG P w=if c then d.aG P w else e.aG P w:=by split<;>rfl
def B7{a:Addr}{v:Value}(h:w.cell? a=some v)(g:gm a false):(load a).aG P w=.ok v w:=by
 simp only[load,Sem.aG,h,g,N9,gT]
@[simp] theorem aoz(d:Obj):(newObj d).aG P w=.ok w.heap.size {w with heap:=w.heap.push d}:=rfl
@[simp] theorem aoA(r:Nat):(shape r).aG P w=.ok (w.shape? r) w:=rfl
def WQ{a:Addr}(h:¬aF.shr a.block)(n:Nat):(freeze a n).aG P w=.ok () (w.freeze a n):=by simp only[freeze,Sem.aG,h,ei]
@[simp] theorem aoB(a:Addr):(frozen a).aG P w=.ok (w.frozen? a) w:=rfl
@[simp] theorem WR:program.aG P w=.ok P w:=rfl
@[simp] theorem aoC(n:Nat):(askRoom n).aG P w=.ok () w:=by
 unfold askRoom;split
 ·simp only[mark,Sem.aG,EI,Conc.Neutral,true_or,gT]
 ·rfl
@[simp] theorem aoD(d:String):(stuck d:Sem Q).aG P w=.halt (.stuck d) w:=rfl
@[simp] theorem aoE(u:Unsupported):(unsupported u:Sem Q).aG P w=.halt (.unsupported u) w:=rfl
@[simp] theorem aoF(v:Value):(goPanic v:Sem Q).aG P w=.halt (.panic v) w:=rfl
@[simp] theorem aoG(q:Question):
 (choose q).aG P w=if q.forced then .ok 0 w else .ok (q.cut (w.tape w.drawn q)) {w with drawn:=w.drawn+1}:=by
 simp only[choose,Sem.aG]
end
def zH{P:Program}{t:TypeId}{d:TypeDesc}(h:P.underlying t=some d)(w:World):(underlying t).aG P w=.ok d w:=by simp[underlying,h]
def WS(P:Program)(w:World)(a:Addr)(v:Value){u:Value}(d:v.oneCell'=true)(h:w.cell? a=some u)(e:w.frozen? a=false)(f:gm a true):
 (store a v).aG P w=.ok () (w.setCell a v):=by
 cases v<;>first
  |(simp[Value.oneCell']at d;done)|(simp only[store,Sem.aG,h,e,f,N9,gT];rfl)
structure er(w ck:World):Prop where
 os:ck.os=w.os
 tape:ck.tape=w.tape
 output:ck.output=w.output
 size:w.heap.size≤ck.heap.size
 mine:∀c,c<w.heap.size→aF.mine c→ck.heap[c]? =w.heap[c]?
 rd:∀c o,c<w.heap.size→aF.rd c o→ck.cell? ⟨c,o,none⟩=w.cell? ⟨c,o,none⟩
structure rW(w w':World)(es:Array Event):Prop where
 os:w'.os=w.os
 tape:w'.tape=w.tape
 output:w'.output=w.output
 size:w.heap.size≤w'.heap.size
 jT:∀c,c<w.heap.size→¬aF.mine c→w'.heap[c]? =w.heap[c]?
 evs:∀e∈es,EK w'.heap.size e
def lp(w w':World):Prop:=∀c,w.heap.size≤c→c<w'.heap.size→oK c
def er.refl(w:World):er w w:=⟨rfl,rfl,rfl,aX _,fun _ _ _=>rfl,fun _ _ _ _=>rfl⟩
def er.trans{a c:World}(h:er a b)(k:er b c):er a c:=
 ⟨k.os.trans h.os,k.tape.trans h.tape,k.output.trans h.output,gb h.size k.size,fun d e f=>(k.mine d (dL e h.size) f).trans (h.mine d e f),
  fun d g e f=>(k.rd d g (dL e h.size) f).trans (h.rd d g e f)⟩
def rW.idle(w:World):rW w w #[]:=⟨rfl,rfl,rfl,aX _,fun _ _ _=>rfl,by simp⟩
def rW.drew(w:World):rW w {w with drawn:=w.drawn+1} #[]:=⟨rfl,rfl,rfl,aX _,fun _ _ _=>rfl,by simp⟩
def er.cell{w g:World}(h:er w g){f:Nat}{v:Value}(d:gm ⟨c,f,none⟩ false)(e:w.cell? ⟨c,f,none⟩=some v):g.cell? ⟨c,f,none⟩=some v:=by
 have i:=zG e;rcases d.2 with d|⟨_,d,_⟩
 ·have:=h.mine c i d.1;unfold World.cell? at e⊢;simp only at e⊢;rw[this];exact e
 ·rw[h.rd c f i d];exact e
def oL(q:Nat→Prop)(e f:Option Obj):Prop:=f=e∨∃vs us t bu,e=some (.cells vs t bu)∧f=some (.cells us t bu)∧us.size=vs.size∧∀d,q d→us[d]? =vs[d]?
structure ff(w v:World):Prop where
 os:v.os=w.os
 tape:v.tape=w.tape
 output:v.output=w.output
 drawn:v.drawn=w.drawn
 size:v.heap.size=w.heap.size
 same:∀c,¬aF.shr c→v.heap[c]? =w.heap[c]?
 shr:∀c,aF.shr c→oL (fun o=>aF.lim o false=true∨aF.lim o true=true) w.heap[c]? v.heap[c]?
def nt(v v':World):Prop:=∀c,c<v.heap.size→aF.shr c→oL (fun d=>¬aF.lim d true=true) v.heap[c]? v'.heap[c]?
def oL.refl(q:Nat→Prop)(d:Option Obj):oL q d d:=.inl rfl
def oL.trans{q:Nat→Prop}{d e z:Option Obj}(h:oL q d e)(k:oL q e z):oL q d z:=by
 rcases h with rfl|⟨vs,us,t,bu,rfl,h2,h3,h4⟩
 ·exact k
 ·rcases k with rfl|⟨n,j,o,p,f,l,m,dn⟩
  ·exact .inr ⟨vs,us,t,bu,rfl,h2,h3,h4⟩
  ·rw[h2]at f;cases f;exact .inr ⟨vs,j,t,bu,rfl,l,m.trans h3,fun g i=>(dn g i).trans (h4 g i)⟩
def nt.refl(v:World):nt v v:=fun _ _ _=>.refl _ _
def nt.trans{a c:World}(h:nt a b)(k:nt b c)(g:a.heap.size≤b.heap.size):nt a c:=fun d e f=>(h d e f).trans (k d (dL e g) f)
section
variable{w v:World}
def ff.both(h:ff w v)(c:Nat):v.heap[c]? =w.heap[c]? ∨aF.shr c∧∃vs us t bu,w.heap[c]? =some (.cells vs t bu)∧v.heap[c]? =some (.cells us t bu)∧us.size=vs.size∧∀d,aF.lim d false=true∨aF.lim d true=true→us[d]? =vs[d]? :=by
 by_cases e:aF.shr c
 ·exact(h.shr c e).imp id fun f=>⟨e,f⟩
 ·exact .inl (h.same c e)
def ff.shape(h:ff w v)(r:Nat):v.shape? r=w.shape? r:=by
 unfold World.shape?;rcases h.both r with d|⟨_,vs,us,t,bu,e,f,g,_⟩
 ·rw[d]
 ·simp only[e,f,g]
def ff.frozen(h:ff w v)(a:Addr):v.frozen? a=w.frozen? a:=by
 unfold World.frozen?;rcases h.both a.block with d|⟨_,vs,us,t,bu,e,f,g,_⟩
 ·rw[d]
 ·simp only[e,f]
def ff.cell(h:ff w v){wr:Bool}(d:gm a wr):v.cell? a=w.cell? a:=by
 unfold World.cell?;rcases h.both a.block with e|⟨f,vs,us,t,bu,g,i,l,j⟩
 ·rw[e]
 ·simp only[g,i];have k:aF.lim a.off wr=true:=by
   rcases d.2 with d|⟨e,d⟩
   ·exact d.2 f
   ·exact absurd f d.2
  rw[j a.off (by cases wr<;>simp[k])]
def ff.modify(h:ff w v)(c:Nat){f g:Obj→Obj}(h1:∀d,¬aF.shr c→f d=g d)(h2:∀vs us t bu,aF.shr c→us.size=vs.size→(∀e,aF.lim e false=true∨aF.lim e true=true→us[e]? =vs[e]?)→∃j l n,f (.cells vs t bu)=.cells j t n∧g (.cells us t bu)=.cells l t n∧l.size=j.size∧∀e,aF.lim e false=true∨aF.lim e true=true→l[e]? =j[e]?)(h3:∀d,(∀vs t bu,d≠.cells vs t bu)→f d=g d):
 ff {w with heap:=w.heap.modify c f} {v with heap:=v.heap.modify c g}:=by
 have o:∀(p:Array Obj) (k:Obj→Obj) (i:Nat),(p.modify c k)[i]? =if c=i then(p[i]?).map k else p[i]? :=fun p k i=>by rw[HT]
 refine⟨h.os,h.tape,h.output,h.drawn,by simpa using h.size,fun i hi=>?_,fun i hi=>?_⟩
 ·show(v.heap.modify c g)[i]? =(w.heap.modify c f)[i]?;rw[o,o,h.same i hi];split
  ·rename_i m;subst m;cases w.heap[c]? with
   |none=>rfl|some d=>simp[h1 d hi]
  ·rfl
 ·show oL _ (w.heap.modify c f)[i]? (v.heap.modify c g)[i]?;rw[o,o];split
  ·rename_i m;subst m;rcases h.shr c hi with m|⟨vs,us,t,bu,x,y,z,A⟩
   ·rw[m];cases B:w.heap[c]? with
    |none=>exact .inl rfl|some d=>
     by_cases u:∃vs t bu,d=.cells vs t bu
     ·obtain⟨vs,t,bu,rfl⟩:=u;obtain⟨j,l,n,q,r,s,dn⟩:=h2 vs vs t bu hi rfl fun _ _=>rfl;exact .inr ⟨j,l,t,n,by simp[q],by simp[r],s,dn⟩
     ·exact .inl (by simp[h3 d fun vs t bu m=>u ⟨vs,t,bu,m⟩])
   ·obtain⟨j,l,n,q,r,s,dn⟩:=h2 vs us t bu hi z A;exact .inr ⟨j,l,t,n,by simp[x,q],by simp[y,r],s,dn⟩
  ·exact h.shr i hi
end
def ff.setCell{w v:World}(h:ff w v)(e:a.spot=none)(d:Value):ff (w.setCell a d) (v.setCell a d):=by
 refine h.modify a.block (fun _ _=>rfl) (fun vs us t bu _ f g=>⟨vs.setIfInBounds a.off d,us.setIfInBounds a.off d,bu,by simp[e],by simp[e],by simp[f],fun i j=>?_⟩) fun _ _=>rfl;rw[Oa,Oa,f,g i j]
def ff.freeze{w v:World}(h:ff w v)(a:Addr)(n:Nat):ff (w.freeze a n) (v.freeze a n):=by
 unfold World.freeze;split
 ·exact h
 ·exact h.modify a.block (fun _ _=>rfl) (fun vs us t bu _ d e=>⟨vs,us,_,rfl,rfl,d,e⟩) fun _ _=>rfl
def ff.push{w v:World}(h:ff w v)(d:Obj):ff {w with heap:=w.heap.push d} {v with heap:=v.heap.push d}:=by
 refine⟨h.os,h.tape,h.output,h.drawn,by simp[h.size],fun i hi=>?_,fun i hi=>?_⟩
 ·show(v.heap.push d)[i]? =(w.heap.push d)[i]?;rw[Bh,Bh,h.size,h.same i hi]
 ·show oL _ (w.heap.push d)[i]? (v.heap.push d)[i]?;rw[Bh,Bh,h.size];split
  ·exact .inl rfl
  ·exact h.shr i hi
def WU(v:World)(e:gm a true)(f:Value):nt v (v.setCell a f):=by
 intro c _ g
 show oL _ v.heap[c]? (v.heap.modify a.block _)[c]?;rw[HT];split
 ·rename_i d;subst d;have h:aF.lim a.off true=true:=by
   rcases e.2 with e|⟨d,_⟩
   ·exact e.2 g
   ·cases d
  cases k:v.heap[a.block]? with
  |none=>exact .inl rfl|some i=>
   cases i with
   |cells vs t bu=>
    refine .inr ⟨vs,vs.setIfInBounds a.off f,t,bu,rfl,by simp[e.1],by simp,fun l j=>?_⟩;rw[Oa];split
    ·rename_i d;subst d;exact absurd h j
    ·rfl
   |_=>exact .inl rfl
 ·exact .inl rfl
def WV(v:World)(h:¬aF.shr a.block)(n:Nat):nt v (v.freeze a n):=by
 intro c _ d;unfold World.freeze;split
 ·exact .refl _ _
 ·show oL _ v.heap[c]? (v.heap.modify a.block _)[c]?;rw[HT,ak (fun e:a.block=c=>h (e.symm▸d))];exact .refl _ _
def WW(v:World)(d:Obj):nt v {v with heap:=v.heap.push d}:=fun c e _=>.inl (by show(v.heap.push d)[c]? =_;rw[Bh,ak (by omega)])
def WX{Q:Type}{P:Program}:∀(p:Sem Q) {w w' v:World} {l:Q},p.aG P w=.ok l w'→ff w v→∃v',p.aG P v=.ok l v'∧ff w' v'∧nt v v'∧v.heap.size≤v'.heap.size∧p.events P v #[]=p.events P w #[]:=by
 intro p
 induction p with
 |pure a=>intro w w' v l h d;simp only[Sem.aG]at h;cases h;exact⟨v,rfl,d,nt.refl v,aX _,rfl⟩
 |load m a k e=>
  intro w w' v l h d;simp only[Sem.aG]at h;split at h
  case h_2=>cases h
  rename_i u A;split at h
  case isFalse=>cases h
  rename_i o;obtain⟨rfl,o⟩:=o;obtain⟨v',f,g,i,dn,j⟩:=e u h d;have s:v.cell? a=some u:=(d.cell o).trans A;refine⟨v',by simp only[Sem.aG,s,o,N9,gT];exact f,g,i,dn,?_⟩;have t:∀w:World,w.cell? a=some u→(Sem.load .plain a k).events P w #[]=(k u).events P w (#[].push ⟨.cell a,false,false⟩):=fun w I=>by simp only[Sem.events,Sem.runT,I];rfl
  rw[t _ s,t _ A,Sem.events_acc,j,←Sem.events_acc]
 |store m a y k e=>
  intro w w' v l h d;cases y with
  |agg y=>simp only[Sem.aG]at h;cases h
  |tuple y=>simp only[Sem.aG]at h;cases h
  |_=>
   simp only[Sem.aG]at h;split at h
   case h_2=>cases h
   rename_i c s;split at h
   ·cases h
   rename_i B;split at h
   case isFalse=>cases h
   rename_i o;obtain⟨rfl,o⟩:=o;obtain⟨v',f,g,i,dn,j⟩:=e h (d.setCell o.1 _);have C:=(d.cell o).trans s;have D:v.frozen? a=false:=by rw[d.frozen];simpa using B
   refine⟨v',by simp only[Sem.aG,C,D,o,N9,gT,m8,ei];exact f,g,(WU v o _).trans i (pJ (IB _ _ _).symm),by rw[IB]at dn;exact dn,?_⟩;simp only[Sem.events,Sem.runT,C,D,s,B,m8,ei];change Sem.events P k _ _=Sem.events P k _ _;rw[Sem.events_acc,j,←Sem.events_acc]
 |new z k e=>
  intro w w' v l h d;simp only[Sem.aG]at h;obtain⟨v',f,g,i,dn,j⟩:=e _ h (d.push z);exact⟨v',by simp only[Sem.aG,d.size];exact f,g,(WW v z).trans i (by simp),by simp at dn;omega,by simpa only[Sem.events,Sem.runT,d.size]using j⟩
 |shape r k e=>
  intro w w' v l h d;simp only[Sem.aG]at h;obtain⟨v',f,g,i,dn,j⟩:=e _ h d;exact⟨v',by simp only[Sem.aG,d.shape];exact f,g,i,dn,by simpa only[Sem.events,Sem.runT,d.shape]using j⟩
 |freeze a n k e=>
  intro w w' v l h d;simp only[Sem.aG]at h;split at h
  ·cases h
  rename_i E;obtain⟨v',f,g,i,dn,j⟩:=e h (d.freeze a n);exact⟨v',by simp only[Sem.aG,E,ei];exact f,g,(WV v E n).trans i (pJ (IC _ _ _).symm),by rw[IC]at dn;exact dn,by simpa only[Sem.events,Sem.runT]using j⟩
 |frozen a k e=>
  intro w w' v l h d;simp only[Sem.aG]at h;obtain⟨v',f,g,i,dn,j⟩:=e _ h d;exact⟨v',by simp only[Sem.aG,d.frozen];exact f,g,i,dn,by simpa only[Sem.events,Sem.runT,d.frozen]using j⟩
 |getObj r k e=>intro w w' v l h;simp only[Sem.aG]at h;cases h
 |setObj r z k e=>intro w w' v l h;simp only[Sem.aG]at h;cases h
 |choose q k e=>
  intro w w' v l h d;simp only[Sem.aG]at h;split at h
  ·rename_i x;obtain⟨v',f,g,i,dn,j⟩:=e _ h d;exact⟨v',by simp only[Sem.aG,x,gT];exact f,g,i,dn,by simpa only[Sem.events,Sem.runT,x,gT]using j⟩
  ·rename_i x;have J:ff {w with drawn:=w.drawn+1} {v with drawn:=v.drawn+1}:=⟨d.os,d.tape,d.output,by show v.drawn+1=w.drawn+1;rw[d.drawn],d.size,d.same,d.shr⟩;obtain⟨v',f,g,i,dn,j⟩:=e _ h J;have F:v.tape v.drawn q=w.tape w.drawn q:=by rw[d.tape,d.drawn]
   refine⟨v',?_,g,i,dn,?_⟩
   ·simp only[Sem.aG,x,F];exact f
   ·simp only[Sem.events,Sem.runT,x,m8,ei,F];exact j
 |sys c k e=>intro w w' v l h;simp only[Sem.aG]at h;cases h
 |program k e=>
  intro w w' v l h d;simp only[Sem.aG]at h;obtain⟨v',f,g,i,dn,j⟩:=e _ h d;exact⟨v',by simp only[Sem.aG];exact f,g,i,dn,by simpa only[Sem.events,Sem.runT]using j⟩
 |mark m k e=>
  intro w w' v l h d;simp only[Sem.aG]at h;split at h
  case isFalse=>cases h
  rename_i o;obtain⟨v',f,g,i,dn,j⟩:=e h d;refine⟨v',by simp only[Sem.aG,o,gT];exact f,g,i,dn,?_⟩;have t:∀w,(Sem.mark m k).events P w #[]=k.events P w (#[].push ⟨.mark m,false,true⟩):=fun w=>by simp only[Sem.events,Sem.runT]
  rw[t,t,Sem.events_acc,j,←Sem.events_acc]
 |halt h=>intro w w' v l H;simp only[Sem.aG]at H;cases H
end
end
section
open Conc
variable{id:Nat}{g:Goroutine}{cs:List Frame}{f:FuncId}{w':World}{i:Nat}{g':Goroutine}{b:Frame}{k:List Item}{R:Array Value}{S:Ending→World→Prop}{ep U:Act→World→Prop}{V:Type}{T:Sem V}{v:Value}{fn:Func}{main:Bool}{fr:Frame}{rest:List Nat}
section
variable [aF]
def StepA(P:Program)(g:Goroutine)(w:World)(g':Goroutine)(w':World)(c:Array Event):Prop:=
 stepG P aF.main g w=.go g' w' c∧∀v,ff w v→∃v',stepG P aF.main g v=.go g' v' c∧ff w' v'∧nt v v'∧v.heap.size≤v'.heap.size
inductive dr(P:Program)(Stop:Goroutine→World→Prop):Goroutine→World→Prop
 |stop {g:Goroutine} {w:World}:(∀ck,er w ck→Stop g ck)→dr P Stop g w
 |step {g:Goroutine} {w:World}:g.status=.running→aF.plain g.frame.fn→
  (∀ck,er w ck→∃g' w' es,StepA P g ck g' w' es∧(lp ck w'→rW ck w' es))→
  (∀ck g' w' es,er w ck→stepG P aF.main g ck=.go g' w' es→lp ck w'→dr P Stop g' w')→dr P Stop g w
 |jump {g:Goroutine} {w:World} (ep:World→Goroutine→World→Prop):(∀ck,er w ck→aF.jump P g ck (ep ck))→
  (∀ck g' w',er w ck→ep ck g' w'→dr P Stop g' w')→dr P Stop g w
variable{P:Program}{Stop:Goroutine→World→Prop}
def dr.rely{w j:World}(h:dr P Stop g w)(e:er w j):dr P Stop g j:=by
 cases h with
 |stop h=>exact .stop fun c d=>h c (e.trans d)|step l m h k=>exact .step l m (fun c d=>h c (e.trans d)) fun c g' w' n d=>k c g' w' n (e.trans d)|jump ep h k=>exact .jump ep (fun c d=>h c (e.trans d)) fun c g' w' d=>k c g' w' (e.trans d)
def dr.ctl{w:World}(e:g.status=.running)(j:aF.plain g.frame.fn)(h:∀c,stepG P aF.main g c=.go g' c)(l:dr P Stop g' w):dr P Stop g w:=
 .step e j (fun c _=>⟨g',c,#[],⟨h c,fun v m=>⟨v,h v,m,nt.refl v,aX _⟩⟩,fun _=>rW.idle _⟩) fun c q w' r n d _=>by
  rw[h c]at d;injection d with o p;subst o p;exact l.rely n
def dr.one{w:World}(m:g.status=.running)(o:aF.plain g.frame.fn)(h:∀c,er w c→∃g' w' d,StepA P g c g' w' d∧(lp c w'→rW c w' d∧dr P Stop g' w')):dr P Stop g w:=
 .step m o (fun c e=>let⟨g',w',d,j,k⟩:=h c e;⟨g',w',d,j,fun n=>(k n).1⟩) fun c s t u e j n=>by
  obtain⟨g',w',d,⟨l,_⟩,k⟩:=h c e;rw[j]at l;injection l with p q r;subst p q r;exact(k n).2
def xw(b:Frame):Prop:=b.kind≠.early∧aF.plain b.fn
def zI(P:Program)(Stop:Goroutine→World→Prop)(b:Frame)(k:List Item)(cs:List Frame):Exit→Act→World→Prop
 |.normal,a,w=>dr P Stop (G (b.at a k) cs) w|.exit id,a,w=>∃c,exitTo id k=some c∧dr P Stop (G (b.at a c) cs) w|.ret,a,w=>∀d,dr P Stop (G {b.at a d with mode:=.returning} cs) w
 |_,_,_=>False
def zI.push{x:Item}{c:Exit}{a:Act}{w:World}(m:x.plain=true)(d:c≠.normal)(h:zI P Stop b k cs c a w):zI P Stop b (x::k) cs c a w:=by
 cases c with
 |normal=>exact absurd rfl d|exit id=>obtain⟨e,n,j⟩:=h;exact⟨e,by cases x<;>simp_all[exitTo,Item.plain],j⟩
 |ret=>exact h|goto l=>exact h|panic ch=>exact h|outgrown=>exact h
def _root_.Go.Code.ef(P:Program)(c:Code)(Q:Exit→Act→World→Prop)(a:Act)(w:World):Prop:=
 ∀(b:Frame) (k:List Item) (cs:List Frame) (Stop:Goroutine→World→Prop),xw b→
  (∀d e w',Q d e w'→zI P Stop b k cs d e w')→dr P Stop (G (b.at a (.code c::k)) cs) w
def zJ(P:Program)(ops:Array Oper)(e:List Nat)(Q:Exit→Act→World→Prop)(a:Act)(w:World):Prop:=
 ∀(b:Frame) (k:List Item) (cs:List Frame) (Stop:Goroutine→World→Prop),xw b→
  (∀c d w',Q c d w'→zI P Stop b k cs c d w')→dr P Stop (G (b.at a (.inRegion ops e::k)) cs) w
structure EM(P:Program)(f:FuncId)(v:Value)(w:World)(fr:Frame):Prop where
 fn:fr.fn=f
 mode:fr.mode=.returning
 defers:fr.defers=[]
 kind:fr.kind=.normal
 reads:∃fn,P.funcs[f]? =some fn∧∀ck,er w ck→(results fn fr.tmps).aG P ck=.ok v ck
def OF(P:Program)(Stop:Goroutine→World→Prop)(f:FuncId)(v:Value)(w:World):List Frame→Prop|c::cs=>dr P Stop (G (c.finish v) cs) w|[]=>∀fr,EM P f v w fr→dr P Stop (G fr []) w
def jU(P:Program)(f:FuncId)(R:Array Value)(w:World)(S:Ending→World→Prop):Prop:=
 ∀(cs:List Frame) (Stop:Goroutine→World→Prop),(∀v w',S (.returned v) w'→OF P Stop f v w' cs)→dr P Stop (G (Frame.enter P f R .normal) cs) w
def jU.mono{w:World}{c:Ending→World→Prop}(h:jU P f R w S)(e:∀d w',S d w'→c d w'):jU P f R w c:=
 fun cs Stop j=>h cs Stop fun v w' l=>j v w' (e _ _ l)
section WY
variable{Q:Exit→Act→World→Prop}{a:Act}{w:World}
def B8{c:Code}{e:Exit→Act→World→Prop}(h:c.ef P Q a w)(l:∀d a w,Q d a w→e d a w):c.ef P e a w:=
 fun b k cs Stop m n=>h b k cs Stop m fun d j w' q=>n d j w' (l d j w' q)
def WZ(h:Q .normal a w):Code.skip.ef P Q a w:=fun b k cs Stop c d=>.ctl rfl c.2 (fun e=>stepG_skip) (d _ _ _ h)
def W0(h:Q .ret a w):Code.ret.ef P Q a w:=fun b k cs Stop c d=>.ctl rfl c.2 (fun e=>stepG_ret') (d _ _ _ h _)
def W1(h:Q (.exit id) a w):(Code.exit id).ef P Q a w:=fun b k cs Stop c d=>by
 obtain⟨l,e,j⟩:=d _ _ _ h;exact .ctl rfl c.2 (fun m=>stepG_exit e) j
def zK{x d:Code}(h:x.ef P (Exit.then (fun j w'=>d.ef P Q j w') Q) a w):(Code.seq x d).ef P Q a w:=by
 intro b k cs Stop e c;refine .ctl rfl e.2 (fun n=>stepG_seq) (h b (.code d::k) cs Stop e fun m j w' q=>?_);cases m with
 |normal=>exact q b k cs Stop e c|exit id=>exact(c _ _ _ q).push rfl (by simp)|ret=>exact(c _ _ _ q).push (x:=.code d) rfl (by simp)|goto l=>exact c _ _ _ q|panic ch=>exact c _ _ _ q|outgrown=>exact c _ _ _ q
def W2{c:Operand}{d j:Code}(l:a.eval c=.bool true)(h:d.ef P Q a w):(Code.cond c d j).ef P Q a w:=
 fun b k cs Stop e m=>.ctl rfl e.2 (fun n=>stepG_cond l) (h b k cs Stop e m)
def W3{c:Operand}{j d:Code}(l:a.eval c=.bool false)(h:d.ef P Q a w):(Code.cond c j d).ef P Q a w:=
 fun b k cs Stop e m=>.ctl rfl e.2 (fun n=>stepG_cond l) (h b k cs Stop e m)
def EN{c:Code}(h:c.ef P (Exit.inBlock id Q) a w):(Code.block id c).ef P Q a w:=by
 intro b k cs Stop j d;refine .ctl rfl j.2 (fun n=>stepG_block) (h b (.inBlock id::k) cs Stop j fun o u w' q=>?_);cases o with
 |normal=>exact .ctl rfl j.2 (fun n=>stepG_inBlock) (d _ _ _ q)|exit m=>
  by_cases e:m=id
  ·simp only[Exit.inBlock,e,gT]at q;exact⟨k,by simp[exitTo,e],d _ _ _ q⟩
  ·simp only[Exit.inBlock,e,ei]at q;obtain⟨p,r,s⟩:=d _ _ _ q;have:(id==m)=false:=by simp;exact fun h=>e h.symm
   exact⟨p,by simp[exitTo,this,r],s⟩
 |ret=>exact fun t=>d _ _ _ q t|goto l=>exact d _ _ _ q|panic ch=>exact d _ _ _ q|outgrown=>exact d _ _ _ q
def zL(P:Program)(c:Code)(Q:Exit→Act→World→Prop)(a:Act)(w:World):Prop:=
 ∀(b:Frame) (k:List Item) (cs:List Frame) (Stop:Goroutine→World→Prop),xw b→
  (∀d e w',Q d e w'→zI P Stop b k cs d e w')→dr P Stop (G (b.at a (.code c::.inLoop c::k)) cs) w
def OG{c:Code}(h:zL P c Q a w):(Code.loop c).ef P Q a w:=fun b k cs Stop d e=>.ctl rfl d.2 (fun j=>stepG_loop) (h b k cs Stop d e)
def xx{c:Code}(h:c.ef P (Exit.then (zL P c Q) Q) a w):zL P c Q a w:=by
 intro b k cs Stop e d;refine h b (.inLoop c::k) cs Stop e fun j m w' q=>?_;cases j with
 |normal=>exact .ctl rfl e.2 (fun n=>stepG_inLoop) (q b k cs Stop e d)|exit id=>exact(d _ _ _ q).push rfl (by simp)|ret=>exact(d _ _ _ q).push (x:=.inLoop c) rfl (by simp)|goto l=>exact d _ _ _ q|panic ch=>exact d _ _ _ q|outgrown=>exact d _ _ _ q
end WY
structure eV(w w':World):Prop where
 os:w'.os=w.os
 tape:w'.tape=w.tape
 output:w'.output=w.output
 jT:∀c,c<w.heap.size→¬aF.mine c→w'.heap[c]? =w.heap[c]?
def eV.refl(w:World):eV w w:=⟨rfl,rfl,rfl,fun _ _ _=>rfl⟩
def _root_.Go.Oper.ef(P:Program)(d:Oper)(a:Act)(w:World)(next:Act→World→Prop):Prop:=
 ∀c,er w c→∃r w',(execOp a.eval d).aG P c=.ok r w'∧
  match r with
  |.value v=>lp c w'→eV c w'∧next (a.put d.dst v) w'|.skip=>lp c w'→eV c w'∧next (a.put d.dst undef) w'
  |.enter f R=>w'=c∧jU P f R c fun
   |.returned v,e=>next (a.put d.dst v) e|_,_=>False
  |_=>False
def Oper.B8{e:Oper}{a:Act}{w:World}(h:∀a w,ep a w→U a w)(l:e.ef P a w ep):e.ef P a w U:=by
 intro m o;obtain⟨r,w',d,c⟩:=l m o;refine⟨r,w',d,?_⟩;cases r<;>first|exact fun n=>⟨(c n).1,h _ _ (c n).2⟩|exact⟨c.1,c.2.mono fun d p j=>by cases d<;>first|exact h _ _ j|exact j⟩|exact c
def EO{w:World}{v:V}(h:T.aG P w=.ok v w')(c:eV w w')(fn:FuncId):rW w w' (seen P fn (T.events P w #[])):=by
 obtain⟨_,h2,h3⟩:=EL T h;exact⟨c.os,c.tape,c.output,h2,c.jT,EJ.seen h3⟩
def EP{w:World}{fn:FuncId}{c:V}(d:T.aG P w=.ok c w')(h:∀{v v'},T.run P v=.ok c v'→stepG P aF.main g v=.go g' v' (seen P fn (T.events P v #[]))):StepA P g w g' w' (seen P fn (T.events P w #[])):=
 ⟨h (EL _ d).1,fun v e=>let⟨v',j,l,m,dn,n⟩:=WX T d e;⟨v',by rw[←n];exact h (EL _ j).1,l,m,dn⟩⟩
def OH{c:Frame}{w:World}(d:fr.mode=.returning)(e:fr.defers=[])(h:fr.kind=.normal)(j:P.funcs[fr.fn]? =some fn)
 (l:(results fn fr.tmps).run P w=.ok v w'):stepG P main (G fr (c::cs)) w=.go (G (c.finish v) cs) w' (seen P fr.fn ((results fn fr.tmps).events P w #[])):=by
  simp[G,stepG,unwind,doReturn,d,e,h,j,l,GStep.after]
def dr.OI{c:Frame}{w:World}(l:aF.plain f)(h:EM P f v w fr)(m:dr P Stop (G (c.finish v) cs) w):dr P Stop (G fr (c::cs)) w:=by
 obtain⟨h1,h2,h3,h4,fn,n,e⟩:=h;refine .one rfl (by show aF.plain fr.fn;rw[h1];exact l) fun j d=>?_;refine⟨_,_,_,EP (e j d) (OH h2 h3 h4 (by rw[h1];exact n)),fun _=>⟨EO (e j d) (eV.refl _) _,m.rely d⟩⟩
def W5{ops:Array Oper}{Q:Exit→Act→World→Prop}{a:Act}{w:World}(h:Q .normal a w):zJ P ops [] Q a w:=fun b k cs Stop c d=>.ctl rfl c.2 (fun e=>stepG_region_end) (d _ _ _ h)
def W6{ops:Array Oper}{c:Oper}{Q:Exit→Act→World→Prop}{a:Act}{w:World}(e:ops[i]? =some c)(j:Region.wanted c (yielded ops a.tmps)=false)
 (h:zJ P ops rest Q (a.put c.dst undef) w):zJ P ops (i::rest) Q a w:=fun b k cs Stop d l=>.ctl rfl d.2 (fun m=>stepG_unwanted e j) (h b k cs Stop d l)
def OJ{ops:Array Oper}{l:Oper}{Q:Exit→Act→World→Prop}{a:Act}{w:World}(j:ops[i]? =some l)(m:Region.wanted l (yielded ops a.tmps)=true)
 (h:l.ef P a w fun p w'=>zJ P ops rest Q p w'):zJ P ops (i::rest) Q a w:=by
 intro b k cs Stop c o;refine .one rfl c.2 fun q s=>?_;obtain⟨r,w',d,e⟩:=h q s;cases r with
 |value v=>exact⟨_,_,_,EP d (stepG_value j m c.1),fun n=>⟨EO d (e n).1 _,(e n).2 b k cs Stop c o⟩⟩|skip=>exact⟨_,_,_,EP d (stepG_none j m c.1),fun n=>⟨EO d (e n).1 _,(e n).2 b k cs Stop c o⟩⟩|enter f R=>
  obtain⟨rfl,t⟩:=e;refine⟨_,_,_,EP d (stepG_enter j m c.1),fun n=>⟨EO d (eV.refl _) _,t _ _ fun v x u=>?_⟩⟩;simp only[OF];rw[Frame.finish_at,j];exact u b k cs Stop c o
 |_=>exact e.elim
def lq(P:Program)(ops:Array Oper)(Q:Exit→Act→World→Prop):List Nat→Act→World→Prop
 |[],a,w=>Q .normal a w|i::rest,a,w=>
  match ops[i]? with
  |none=>False|some c=>if Region.wanted c (yielded ops a.tmps)then c.ef P a w (lq P ops Q rest)else lq P ops Q rest (a.put c.dst undef) w
def B9{ops:Array Oper}{Q:Exit→Act→World→Prop}:∀(d:List Nat) (a:Act) (w:World),lq P ops Q d a w→zJ P ops d Q a w
 |[],a,w,h=>W5 h|i::rest,a,w,h=>by
  unfold lq at h;split at h
  ·exact h.elim
  ·rename_i j e;split at h
   ·rename_i c;exact OJ e c (Oper.B8 (fun a w=>B9 rest a w) h)
   ·rename_i c;exact W6 e (by simpa using c) (B9 rest _ _ h)
section
variable{Q:Exit→Act→World→Prop}{a:Act}{w:World}{ops:Array Oper}
def OK(h:lq P ops Q (List.range ops.size) a w):(Code.region id ops false).ef P Q a w:=
 fun b k cs Stop c d=>.ctl rfl c.2 (fun e=>stepG_region) (B9 _ _ _ h b k cs Stop c d)
def uZ(P:Program)(ops:Array Oper)(i:Nat)(ep:Act→World→Prop)(a:Act)(w:World):Prop:=
 match ops[i]? with
 |none=>False|some c=>if Region.wanted c (yielded ops a.tmps)then c.ef P a w ep else ep (a.put c.dst undef) w
def W7{a:Act}{w:World}(h:∀a w,ep a w→U a w)(c:uZ P ops i ep a w):uZ P ops i U a w:=by
 unfold uZ at *;split
 ·simp_all
 ·rename_i j e;simp only[e]at c;split
  ·rename_i d;simp only[d,gT]at c;exact Oper.B8 h c
  ·rename_i d;simp only[d]at c;exact h _ _ c
def W8(i:Nat)(rest:List Nat)(a:Act)(w:World):lq P ops Q (i::rest) a w=uZ P ops i (lq P ops Q rest) a w:=by
 simp only[lq,uZ]
def EQ(P:Program)(c:Region.Mode)(ops:Array Oper)(Q:Exit→Act→World→Prop):Nat→Array Bool→Act→World→Prop
 |0,listed,a,w=>Region.ready c ops listed=[]∧Q .normal a w|d+1,listed,a,w=>
  (Region.ready c ops listed=[]→Q .normal a w)∧
  ∀i∈Region.ready c ops listed,uZ P ops i (EQ P c ops Q d (listed.setIfInBounds i true)) a w
def W9{c:Region.Mode}:∀(d t:Nat) (listed:Array Bool) (a:Act) (w:World),EQ P c ops Q d listed a w→
 lq P ops Q (Region.linearise.go c ops d t listed []) a w:=by
 intro d
 induction d with
 |zero=>intro t listed a w h;simpa[Region.linearise.go,lq]using h.2|succ d l=>
  intro t listed a w h;obtain⟨m,n⟩:=h;simp only[Region.linearise.go];change lq P ops Q (match(Region.ready c ops listed)[t%(Region.ready c ops listed).length]? with
   |some i=>Region.linearise.go c ops d (t/(Region.ready c ops listed).length) (listed.setIfInBounds i true) [i]|none=>[].reverse) a w
  cases hi:(Region.ready c ops listed)[t%(Region.ready c ops listed).length]? with
  |none=>
   have o:Region.ready c ops listed=[]:=by
    cases p:Region.ready c ops listed with
    |nil=>rfl|cons e j=>
     rw[p]at hi;have q:t%(e::j).length<(e::j).length:=qu _ (by simp);simp at hi;simp at q;omega
   simpa[lq]using m o
  |some i=>
   simp only[];rw[linearise_go_acc,List.reverse_singleton,List.singleton_append,W8];exact W7 (fun a w=>l _ _ a w) (n i (rH hi))
def OL:
 stepG P main (G (b.at a (.code (.region id ops true)::k)) cs) w=
  .go (G (b.at a (.inRegion ops (Region.schedule (P.follows .mixedOrders) ops (w.tape w.drawn (.order b.fn id)))::k)) cs) {w with drawn:=w.drawn+1}:=by
 simp[G,stepG,stepG.exec,Frame.at,choose,Sem.run,Question.forced,Question.cut]
def Xa(j:P.follows .mixedOrders=true)
 (h:∀d,er w d→EQ P .any ops Q ops.size (Array.replicate ops.size false) a {d with drawn:=d.drawn+1}):(Code.region id ops true).ef P Q a w:=by
 intro b k cs Stop e l;refine .one rfl e.2 fun d m=>⟨_,_,_,⟨OL,fun v c=>⟨{v with drawn:=v.drawn+1},by rw[OL,c.tape,c.drawn],⟨c.os,c.tape,c.output,by show v.drawn+1=_;rw[c.drawn],c.size,c.same,c.shr⟩,.refl _,aX _⟩⟩,fun _=>⟨rW.drew _,?_⟩⟩;simp only[Region.schedule,j,Bool.true_or,gT];exact B9 _ _ _ (W9 ops.size _ _ a _ (h d m)) b k cs Stop e l
end
def OM(P:Program)(fn:Func)(S:Ending→World→Prop):Exit→Act→World→Prop|.normal,a,w|.ret,a,w=>a.defers=[]∧∃v,(∀c,er w c→(results fn a.tmps).aG P c=.ok v c)∧S (.returned v) w|_,_,_=>False
def ON{c:Code}{w:World}(e:aF.plain f)(j:P.funcs[f]? =some fn)(p:fn.body=some c)
 (h:c.ef P (OM P fn S) {tmps:=R++Array.replicate (fn.ntmps-R.size) undef,defers:=[]} w):jU P f R w S:=by
 intro cs Stop r;rw[enter_at _ j p];have n:∀(fr:Frame) (v:Value) (w':World),S (.returned v) w'→EM P f v w' fr→dr P Stop (G fr cs) w':=by
  intro fr v w' d o;have:=r v w' d;cases cs with
  |nil=>exact this fr o|cons c cs=>exact .OI e o this
 refine h (base f) [] cs Stop ⟨by simp[base],e⟩ fun s t w' q=>?_;cases s with
 |normal=>
  obtain⟨l,v,m,d⟩:=q;exact .ctl rfl e (fun u=>stepG_end) (n _ v w' d ⟨rfl,rfl,l,rfl,fn,j,m⟩)
 |ret=>
  obtain⟨l,v,m,d⟩:=q;exact fun x=>n _ v w' d ⟨rfl,rfl,l,rfl,fn,j,m⟩
 |_=>exact q.elim
end
end
section
variable{n:Nat}{r:af}
def ai.ok(S:ai):Prop:=∀b∈S.cond,b=true
structure Pure(S S':ai):Prop where
 H:S'.H=S.H
 low:S'.low=S.low
 ok:S'.ok→S.ok
def Pure.refl(S:ai):Pure S S:=⟨rfl,rfl,id⟩
def Pure.trans{a b c:ai}(h:Pure a b)(k:Pure b c):Pure a c:=⟨k.H.trans h.H,k.low.trans h.low,fun d=>h.ok (k.ok d)⟩
def gi(S:ai)(b:Bool):Pure S (S.eU b):=⟨rfl,rfl,fun a c d=>a c (m9 _ d)⟩
def gp{S:ai}{b:Bool}(h:(S.eU b).ok):b=true:=h b (lO ..)
def B.oM{b:B}{S a:ai}{t:Bool}(h:b.test S=some (t,a)):Pure S a∧(a.ok→b.v=t):=by
 unfold B.test at h;cases b with
 |c b=>simp at h;obtain⟨rfl,rfl⟩:=h;exact⟨Pure.refl _,fun _=>rfl⟩
 |s b=>
  simp only at h;cases f:S.dec with
  |nil=>simp[f]at h|cons d r=>
   simp[f]at h;obtain⟨rfl,rfl⟩:=h;refine⟨⟨rfl,rfl,fun e g i=>e g (m9 _ i)⟩,fun e=>?_⟩;have:=e (b==d) (lO ..);simpa[B.v]using this
def B.fU{b:B}{S a:ai}(h:b.cj S=some a):Pure S a∧(a.ok→b.v=true):=by
 unfold B.cj at h;cases b with
 |c b=>cases b<;>simp at h;subst h;exact⟨Pure.refl _,fun _=>rfl⟩
 |s b=>simp at h;subst h;exact⟨gi _ _,fun d=>gp d⟩
def u0(a b:Int):kL a b=decide (a≤b):=by
 cases a<;>cases b<;>simp only[kL]
 ·rw[ov];simp
 ·rw[ov];simp;omega
 ·rw[ov];simp;omega
 ·rw[ov];simp;omega
def nu(a b:Int):kM a b=(a==b):=by
 cases a<;>cases b<;>simp only[kM]
 ·rw[ov];simp;omega
 ·rw[ov];simp
 ·rw[ov];simp
 ·rw[ov];simp;omega
def OO(a b:Int):Ew a b=decide (a<b):=by
 unfold Ew;rw[u0,ov];simp;omega
def ER{a b:IntKind}(h:rQ a b=true):a=b:=by cases a<;>cases b<;>simp[rQ]at h<;>rfl
def tv(k:IntKind)(n:Int)(h1:lo k≤n)(h2:n≤hi k):k.wrap n=n:=by
 cases k<;>simp only[lo,hi]at h1 h2
 ·exact IntWalk.i8_in n ⟨h1,h2⟩
 ·exact IntWalk.i16_in n ⟨h1,h2⟩
 ·exact IntWalk.i32_in n ⟨h1,h2⟩
 ·exact IntWalk.i64_in n ⟨h1,h2⟩
 ·exact IntWalk.u8_in n ⟨h1,h2⟩
 ·exact IntWalk.u16_in n ⟨h1,h2⟩
 ·exact IntWalk.u32_in n ⟨h1,h2⟩
 ·exact IntWalk.u64_in n ⟨h1,h2⟩
def u5(k:IntKind)(n:Int):qy k n=k.wrap n:=by
 unfold qy;cases h1:kL (lo k) n<;>simp only;cases h2:kL n (hi k)<;>simp only;rw[u0]at h1 h2;exact(tv k n (by simpa using h1) (by simpa using h2)).symm
def B.u6(a b:B):(a.and b).v=(a.v&&b.v):=by cases a<;>cases b<;>rfl
def B.IE(a:B):a.not.v= !a.v:=by cases a<;>rfl
def Z.IF(a b:Z):(a.lt b).v=decide (a.v<b.v):=by
 cases a<;>cases b<;>first|rfl|exact OO _ _
def Z.jV(a b:Z):(a.le b).v=decide (a.v≤b.v):=by
 cases a<;>cases b<;>first|rfl|exact u0 _ _
def Z.Ca(a b:Z):(a.eq b).v=(a.v==b.v):=by cases a<;>cases b<;>simp[Z.eq,B.v,Z.v,nu]
def N.jV(a b:N):(a.le b).v=decide (a.v≤b.v):=by
 cases a<;>cases b
 ·rename_i a b;show Nat.ble a b=decide (a≤b);rw[ov];simp
 ·rfl
 ·rfl
 ·rfl
def N.Ca(a b:N):(a.eq b).v=(a.v==b.v):=by
 cases a<;>cases b
 ·rename_i a b;show Nat.beq a b=(a==b);rw[ov];simp
 ·rfl
 ·rfl
 ·rfl
def N.toZ_v(a:N):a.toZ.v=(a.v:Int):=by cases a<;>rfl
def Z.toN_v(a:Z):a.toN.v=a.v.toNat:=by cases a<;>rfl
def N.IG(f:Nat→Nat→Nat)(a b:N):(N.Ex f a b).v=f a.v b.v:=by cases a<;>cases b<;>rfl
def N.gH(a b:N):(a.add b).v=a.v+b.v:=N.IG _ a b
def N.Cb(a b:N):(a.sub b).v=a.v-b.v:=N.IG _ a b
def N.Xb(a b:N):(a.min b).v=Nat.min a.v b.v:=N.IG _ a b
def N.u7(a:N)(n:Nat):(a.ij n).v=a.v*n:=by cases a<;>rfl
def bh.k:bh→IntKind|.int k _=>k|.bQ _=>.u8|.cX _=>.u16|.aD _=>.u32|.au _=>.u64
def bh.val(a:bh):Value:=.int a.k a.z.v
def ES{k b:IntKind}{a:Int}{e:BitVec n}(h:ze n k b a=some e):k=b∧a=(e.toNat:Int):=by
 unfold ze at h;cases c:rQ k b with
 |false=>simp[c]at h|true=>
  simp only[c]at h;cases a with
  |negSucc a=>simp at h|ofNat a=>
   simp only at h;cases d:Nat.blt a (2^n)with
   |false=>simp[d]at h|true=>
    simp[d]at h;refine⟨ER c,?_⟩;subst h;have:a<2^n:=by simpa using d
    simp[gZ,dM this]
def bh.rX{v:bh}{a:BitVec 8}(h:v.fD=some a):v.val=.int .u8 a.toNat:=by
 cases v with
 |int k z=>cases z<;>simp[bh.fD]at h;obtain⟨rfl,rfl⟩:=ES h;rfl
 |bQ b=>simp[bh.fD]at h;subst h;rfl|_=>simp[bh.fD]at h
def bh.Cc{v:bh}{a:BitVec 16}(h:v.mC=some a):v.val=.int .u16 a.toNat:=by
 cases v with
 |int k z=>cases z<;>simp[bh.mC]at h;obtain⟨rfl,rfl⟩:=ES h;rfl
 |cX b=>simp[bh.mC]at h;subst h;rfl|_=>simp[bh.mC]at h
def bh.u9{v:bh}{a:BitVec 32}(h:v.iq=some a):v.val=.int .u32 a.toNat:=by
 cases v with
 |int k z=>cases z<;>simp[bh.iq]at h;obtain⟨rfl,rfl⟩:=ES h;rfl
 |aD b=>simp[bh.iq]at h;subst h;rfl|_=>simp[bh.iq]at h
def bh.oN{v:bh}{a:BitVec 64}(h:v.fE=some a):v.val=.int .u64 a.toNat:=by
 cases v with
 |int k z=>cases z<;>simp[bh.fE]at h;obtain⟨rfl,rfl⟩:=ES h;rfl
 |au b=>simp[bh.fE]at h;subst h;rfl|_=>simp[bh.fE]at h
inductive b5:af→Value→Prop
 |num (n:bh):b5 (.num n) n.val|bool (b:B):b5 (.atom (.bool b)) (.bool b.v)
def b5.int(k:IntKind)(z:Z):b5 (.num (.int k z)) (.int k z.v):=.num (.int k z)
def b5.bQ(a:BitVec 8):b5 (.num (.bQ a)) (.int .u8 a.toNat):=.num (.bQ a)
def b5.cX(a:BitVec 16):b5 (.num (.cX a)) (.int .u16 a.toNat):=.num (.cX a)
def b5.aD(a:BitVec 32):b5 (.num (.aD a)) (.int .u32 a.toNat):=.num (.aD a)
def b5.au(a:BitVec 64):b5 (.num (.au a)) (.int .u64 a.toNat):=.num (.au a)
section words
variable [aF]{P:Program}(w:World)
def eG:Nat→IntKind|8=>.u8|16=>.u16|32=>.u32|_=>.u64
def width(n:Nat):Prop:=n=8∨n=16∨n=32∨n=64
def Xc(h:width n):(eG n).bits=n:=by rcases h with rfl|rfl|rfl|rfl<;>rfl
def va(h:width n)(a:Int):(eG n).wrap a=a%(2^n:Nat):=by
 rcases h with rfl|rfl|rfl|rfl<;>simp[eG,IntKind.wrap,IntKind.signed,IntKind.bits]
def ET(h:width n)(a:BitVec n):(eG n).wrap (a.toNat:Int)=a.toNat:=by
 rw[va h];have:=a.isLt;exact V6 (by omega) (by omega)
def Xd(d:width n)(a b:BitVec n)(c:BinOp):
 (c=.and→(Op.intBits c (eG n) a.toNat b.toNat).aG P w=.ok (.int (eG n) (a&&&b).toNat) w)∧
 (c=.or→(Op.intBits c (eG n) a.toNat b.toNat).aG P w=.ok (.int (eG n) (a|||b).toNat) w)∧
 (c=.xor→(Op.intBits c (eG n) a.toNat b.toNat).aG P w=.ok (.int (eG n) (a^^^b).toNat) w)∧
 (c=.andNot→(Op.intBits c (eG n) a.toNat b.toNat).aG P w=.ok (.int (eG n) (a&&&~~~b).toNat) w):=by
 have e:=ET d;rcases d with rfl|rfl|rfl|rfl<;>refine⟨?_,?_,?_,?_⟩<;>rintro rfl<;>
  simp only[Op.intBits,eG,IntKind.bits,uF,V7,V8,Sem.fT,Result.ok.injEq,Value.int.injEq,HU,uG]<;>
  exact e _
def Xe(e:width n)(mk:BitVec n→af)(c:∀b,b5 (mk b) (.int (eG n) b.toNat))(f:BinOp)(b a:BitVec n)(t:TypeId){S i:ai}
 (h:zf f n mk b a S=some (r,i)):Pure S i∧(i.ok→∃v,(binOp f t (.int (eG n) b.toNat) (.int (eG n) a.toNat)).aG P w=.ok v w∧b5 r v):=by
 have g:=Xd (P:=P) w e b a f;have o:=b.isLt;have p:=a.isLt;have k:∀(d:a≠0),¬((a.toNat:Int)=0):=by
  intro d h1;apply d;apply nc;simpa using h1
 cases f<;>simp only[zf,Ii,aB,aN,reduceCtorEq]at h<;>obtain⟨rfl,rfl⟩:=h<;>
  first
   |refine⟨Pure.refl _,fun _=>?_⟩|refine⟨gi _ _,fun l=>?_⟩
 case add=>
  refine⟨_,?_,c _⟩;simp[binOp,Op.intArith,va e]
 case sub=>
  refine⟨_,?_,c _⟩;simp only[binOp,mq,mu,ei,Op.intArith,va e,Sem.fT,kH];have m:((2^n-a.toNat+b.toNat:Nat):Int)=((b.toNat:Int)-a.toNat)+((2^n:Nat):Int):=by omega
  rw[Ob,m,V9]
 case mul=>
  refine⟨_,?_,c _⟩;simp[binOp,Op.intArith,va e]
 case quo=>
  have d:a≠0:=by have:=gp l;simpa using this
  refine⟨_,?_,c _⟩;have j:((b.toNat:Int).tdiv a.toNat)=((b/a).toNat:Int):=by
   rw[rI];rfl
  simp only[binOp,mq,mu,ei,Op.intDiv,k d,j,ET e,Sem.fT]
 case rem=>
  have d:a≠0:=by have:=gp l;simpa using this
  refine⟨_,?_,c _⟩;have j:((b.toNat:Int).tmod a.toNat)=((b%a).toNat:Int):=by
   rw[ow];rfl
  simp only[binOp,mq,mu,ei,Op.intDiv,k d,j,Sem.fT]
 case and=>exact⟨_,by simpa[binOp]using g.1 rfl,c _⟩
 case or=>exact⟨_,by simpa[binOp]using g.2.1 rfl,c _⟩
 case xor=>exact⟨_,by simpa[binOp]using g.2.2.1 rfl,c _⟩
 case andNot=>exact⟨_,by simpa[binOp]using g.2.2.2 rfl,c _⟩
 case eql=>
  refine⟨_,?_,b5.bool (.s (b==a))⟩;simp only[binOp,mq,mu,ei,Op.intCmp,Sem.fT,B.v];congr 2;rw[ov];simp[Wa];omega
 case neq=>
  refine⟨_,?_,b5.bool (.s (b !=a))⟩;simp only[binOp,mq,mu,ei,Op.intCmp,Sem.fT,B.v];congr 2;rw[ov];simp[Wa];omega
 all_goals
  refine⟨_,?_,b5.bool (.s _)⟩;simp only[binOp,mq,mu,ei,Op.intCmp,Sem.fT,B.v];congr 2;rw[ov];simp only[jM];omega
def EU(k:width n)(mk:BitVec n→af)(o:∀a,b5 (mk a) (.int (eG n) a.toNat))(e:BinOp)(a:BitVec n)(b:Z)(t:TypeId)(p:IntKind){S f:ai}
 (h:td mk e a b S=some (r,f)):Pure S f∧(f.ok→∃v,(binOp e t (.int (eG n) a.toNat) (.int p b.v)).aG P w=.ok v w∧b5 r v):=by
 unfold td at h;cases g:((Z.c 0).le b).cj S with
 |none=>simp[g]at h|some A=>
  simp only[g]at h;obtain⟨q,s⟩:=B.fU g;have l:=a.isLt;cases e<;>simp only[BC,Ij,aB,aN,reduceCtorEq]at h<;>obtain⟨rfl,rfl⟩:=h<;>refine⟨q,fun u=>?_⟩
  all_goals
   have i:=s u;rw[Z.jV]at i;have i:0≤b.v:=aZ i;refine⟨_,?_,o _⟩;simp only[binOp,Op.shift,ak (show¬b.v<0 by omega),Xc k,Sem.fT];congr 2
  ·rw[va k,an9,Wb];by_cases j:b.v.toNat≤n
   ·rw[Bi j]
    norm_cast
   ·rw[HV (by omega)];obtain⟨d,x⟩:∃d,b.v.toNat=n+d:=⟨b.v.toNat-n,by omega⟩;rw[x,Nat.pow_add];have y:((a.toNat:Int)*2^n)%((2^n:Nat):Int)=0:=by
     push_cast;exact Int.mul_emod_left _ _
    rw[y,←iX,Nat.mul_right_comm,Nat.mul_mod_left];rfl
  ·rw[y7,w5];have z:∀m:Nat,((a.toNat:Int).fdiv (2^m))=((a.toNat/2^m:Nat):Int):=by
    intro m;rw[Wc _ (by exact_mod_cast kI _)]
    norm_cast
   rw[z];by_cases j:b.v.toNat≤n
   ·rw[Bi j]
   ·rw[HV (by omega),Bj l,Bj];exact dL l (Nat.pow_le_pow_right (by omega) (by omega))
end words
end
section
variable{T:BinOp}{r:af}{S U:ai}{k:IntKind}{n:Nat}{Q:bh}{m:Nat}{z:Z}{R:bh}{V:Value}
section
variable [aF]{P:Program}(w:World)
def Xf{f:Z→Z→B}(h:qz T=some f)(k:IntKind)(Q R:Z)(t:TypeId):
 (binOp T t (.int k Q.v) (.int k R.v)).aG P w=.ok (.bool (f Q R).v) w:=by
 cases T<;>simp only[qz,aB,reduceCtorEq]at h<;>subst h<;>
  simp only[binOp,mq,mu,ei,Op.intCmp,Sem.fT,Z.Ca,Z.IF,Z.jV,B.IE]<;>rfl
def OP{f:(n:Nat)→BitVec n→BitVec n→BitVec n}(g:Nat→Nat→Nat)(c:∀n (Q R:BitVec n),(f n Q R).toNat=g Q.toNat R.toNat)
 (a b:Nat) (i:(a:Int)≤hi k) (j:(b:Int)≤hi k) (d:((g a b:Nat):Int)≤hi k):
 k.wrap (f k.bits (BitVec.ofInt k.bits a) (BitVec.ofInt k.bits b)).toNat=(g a b:Nat):=by
 have l:hi k<((2^k.bits:Nat):Int):=by cases k<;>decide
 have o:lo k≤0:=by cases k<;>decide
 have e:(BitVec.ofInt k.bits (a:Int)).toNat=a:=by
  rw[uF,gZ,dM (by omega)]
 have h:(BitVec.ofInt k.bits (b:Int)).toNat=b:=by
  rw[uF,gZ,dM (by omega)]
 rw[c,e,h];exact tv k _ (by omega) d
def OQ(k:IntKind):∃m,hi k=((2^m:Nat):Int)-1:=by
 cases k
 ·exact⟨7,by decide⟩
 ·exact⟨15,by decide⟩
 ·exact⟨31,by decide⟩
 ·exact⟨63,by decide⟩
 ·exact⟨8,by decide⟩
 ·exact⟨16,by decide⟩
 ·exact⟨32,by decide⟩
 ·exact⟨64,by decide⟩
def Xg(k:IntKind)(a b:Nat)(c:(a:Int)≤hi k):((a&&&b:Nat):Int)≤hi k:=by
 have:a&&&b≤a:=Nat.and_le_left;omega
def Xh(k:IntKind)(a b:Nat)(c:(a:Int)≤hi k)(d:(b:Int)≤hi k):((a|||b:Nat):Int)≤hi k:=by
 obtain⟨m,e⟩:=OQ k;have:a|||b<2^m:=Nat.or_lt_two_pow (by omega) (by omega);omega
def OR(k:IntKind)(a b:Nat)(c:(a:Int)≤hi k)(d:(b:Int)≤hi k):((a^^^b:Nat):Int)≤hi k:=by
 obtain⟨m,e⟩:=OQ k;have:a^^^b<2^m:=Nat.xor_lt_two_pow (by omega) (by omega);omega
def IJ(k:IntKind)(f:(n:Nat)→BitVec n→BitVec n→BitVec n)(g:Nat→Nat→Nat)(c:∀n (Q R:BitVec n),(f n Q R).toNat=g Q.toNat R.toNat)
 (d:∀a b:Nat,(a:Int)≤hi k→(b:Int)≤hi k→((g a b:Nat):Int)≤hi k) (a b:Int):
 BD k (fun _=>k.wrap (f k.bits (BitVec.ofInt k.bits a) (BitVec.ofInt k.bits b)).toNat) g a b=
  k.wrap (f k.bits (BitVec.ofInt k.bits a) (BitVec.ofInt k.bits b)).toNat:=by
 unfold BD;cases a<;>simp only;cases b<;>simp only;rename_i a b;cases h1:kL (Int.ofNat a) (hi k)<;>simp only;cases h2:kL (Int.ofNat b) (hi k)<;>simp only;rw[u0]at h1 h2;have h1:(a:Int)≤hi k:=aZ h1;have h2:(b:Int)≤hi k:=aZ h2;exact(OP g c a b h1 h2 (d a b h1 h2)).symm
def Xi{f:IntKind→Int→Int→Option Z}(h:BE T=some f)(k:IntKind)(a b:Int)(c:f k a b=some z)(t:TypeId):
 (binOp T t (.int k a) (.int k b)).aG P w=.ok (.int k z.v) w:=by
 have g:=IJ k (fun n Q R=>Q&&&R) Nat.land (fun n Q R=>Wd Q R) (fun a b e _=>Xg k a b e);have i:=IJ k (fun n Q R=>Q|||R) Nat.lor (fun n Q R=>BitVec.toNat_or Q R) (fun a b e d=>Xh k a b e d);have j:=IJ k (fun n Q R=>Q^^^R) Nat.xor (fun n Q R=>BitVec.toNat_xor Q R) (fun a b e d=>OR k a b e d);cases T<;>simp only[BE,aB,reduceCtorEq]at h<;>subst h
 case add=>simp only[aB]at c;subst c;simp[binOp,Op.intArith,Z.v,u5]
 case sub=>simp only[aB]at c;subst c;simp[binOp,Op.intArith,Z.v,u5]
 case mul=>simp only[aB]at c;subst c;simp[binOp,Op.intArith,Z.v,u5]
 case quo=>
  simp only at c;cases d:kM b 0 with
  |true=>simp[d]at c|false=>
   simp only[d,aB]at c;subst c;rw[nu]at d;have d:¬b=0:=by simpa using d
   simp[binOp,Op.intDiv,Z.v,u5,d]
 case rem=>
  simp only at c;cases d:kM b 0 with
  |true=>simp[d]at c|false=>
   simp only[d,aB]at c;subst c;rw[nu]at d;have d:¬b=0:=by simpa using d
   simp[binOp,Op.intDiv,Z.v,d]
 case and=>simp only[aB]at c;subst c;simp only[binOp,mq,mu,ei,Op.intBits,Sem.fT,Z.v,g]
 case or=>simp only[aB]at c;subst c;simp only[binOp,mq,mu,ei,Op.intBits,Sem.fT,Z.v,i]
 case xor=>simp only[aB]at c;subst c;simp only[binOp,mq,mu,ei,Op.intBits,Sem.fT,Z.v,j]
 case andNot=>simp only[aB]at c;subst c;simp only[binOp,mq,mu,ei,Op.intBits,Sem.fT,Z.v]
def Xj{f:IntKind→Int→Int→ai→af×ai}(h:BF T=some f)(k:IntKind)(a b:Int)(S:ai)(t:TypeId):
 Pure S (f k a b S).2∧((f k a b S).2.ok→∃v,(binOp T t (.int k a) (.int k b)).aG P w=.ok v w∧b5 (f k a b S).1 v):=by
 cases T<;>simp only[BF,aB,reduceCtorEq]at h<;>subst h<;>refine⟨gi _ _,fun e=>?_⟩<;>
  have c:=aZ (gp e)<;>refine⟨_,?_,b5.int _ _⟩
 case add=>simp[binOp,Op.intArith,Z.v,tv k _ c.1 c.2]
 case sub=>simp[binOp,Op.intArith,Z.v,tv k _ c.1 c.2]
 case mul=>simp[binOp,Op.intArith,Z.v,tv k _ c.1 c.2]
 case quo=>
  obtain⟨h1,h2,h3⟩:=c;have g:¬b=0:=by omega
  have i:lo k≤0:=by cases k<;>decide
  have d:a.tdiv b=a/b:=pK h1;have j:0≤a/b:=Int.ediv_nonneg h1 (by omega);have l:a/b≤a:=Int.ediv_le_self b h1;simp only[binOp,mq,mu,ei,Op.intDiv,g,Sem.fT,Z.v];rw[tv k _ (by omega) (by omega)]
 case rem=>simp only[binOp,mq,mu,ei,Op.intDiv,(show¬b=0 from c),Sem.fT,Z.v]
 case and=>simp only[binOp,mq,mu,ei,Op.intBits,Sem.fT,Z.v,Oq]
 case or=>simp only[binOp,mq,mu,ei,Op.intBits,Sem.fT,Z.v,Ot]
 case andNot=>simp only[binOp,mq,mu,ei,Op.intBits,Sem.fT,Z.v,bk]
 case xor=>
  obtain⟨h1,h2,h3,h4⟩:=c;obtain⟨Q,rfl⟩:=Oc h1;obtain⟨R,rfl⟩:=Oc h2;have d:=OP (k:=k) (f:=fun n Q R=>Q^^^R) (fun a b=>a^^^b) (fun n Q R=>BitVec.toNat_xor Q R) Q R h3 h4 (OR k Q R h3 h4);simp only[binOp,mq,mu,ei,Op.intBits,Sem.fT,Z.v,d,eC]
def Xk{Q R:Z}(h:intArith T k Q R S=some (r,U))(t:TypeId):
 Pure S U∧(U.ok→∃v,(binOp T t (.int k Q.v) (.int k R.v)).aG P w=.ok v w∧b5 r v):=by
 unfold intArith at h;cases e:qz T with
 |some f=>
  simp only[e,aB,aN]at h;obtain⟨rfl,rfl⟩:=h;exact⟨Pure.refl _,fun _=>⟨_,Xf w e k Q R t,.bool _⟩⟩
 |none=>
  simp only[e]at h;have g:∀a b,uN T k a b S=some (r,U)→Pure S U∧(U.ok→∃v,(binOp T t (.int k a) (.int k b)).aG P w=.ok v w∧b5 r v):=by
   intro a b h;unfold uN at h;cases d:BF T with
   |none=>simp[d]at h|some f=>
    simp only[d,aB]at h;have:=Xj (P:=P) w d k a b S t;rw[h]at this;exact this
  cases Q with
  |s a=>
   cases R with
   |s b=>exact g _ _ h|c b=>exact g _ _ h
  |c a=>
   cases R with
   |s b=>exact g _ _ h|c b=>
    simp only at h;cases d:BE T with
    |none=>simp[d]at h|some f=>
     simp only[d]at h;cases i:f k a b with
     |none=>simp[i]at h|some z=>
      simp only[i,aB,aN]at h;obtain⟨rfl,rfl⟩:=h;exact⟨Pure.refl _,fun _=>⟨_,Xi w d k a b i t,.int _ _⟩⟩
def Xl{a r:Int}(h:BG T k a n=some r)(t:TypeId)(c:IntKind):
 (binOp T t (.int k a) (.int c n)).aG P w=.ok (.int k r) w:=by
 have b:¬((n:Int)<0):=by omega
 cases T<;>simp only[BG,reduceCtorEq]at h
 case shl=>
  cases a with
  |ofNat Q=>
   simp only[aB]at h;subst h;simp only[binOp,Op.shift,b,ei,eC,Sem.fT,u5];congr 3
   show Int.ofNat Q*2^min n k.bits=Int.ofNat (Q<<<(min n k.bits));rw[Wb];simp
  |negSucc Q=>
   simp only[aB]at h;subst h;simp only[binOp,Op.shift,b,ei,eC,Sem.fT]
 case shr=>
  cases a with
  |ofNat Q=>
   simp only[aB]at h;subst h;simp only[binOp,Op.shift,b,ei,eC,Sem.fT];congr 2
   show(Int.ofNat Q).fdiv (2^min n k.bits)=Int.ofNat (Q>>>(min n k.bits));rw[w5,Wc _ (by exact_mod_cast kI _)];simp
  |negSucc Q=>
   simp only[aB]at h;subst h;simp only[binOp,Op.shift,b,ei,eC,Sem.fT]
def Xm{e:Z}(h:zg k z T e S=some (r,U))(t:TypeId)(i:IntKind):
 Pure S U∧(U.ok→∃v,(binOp T t (.int k z.v) (.int i e.v)).aG P w=.ok v w∧b5 r v):=by
 unfold zg at h;cases e with
 |s b=>simp at h|c b=>
  simp only at h;cases d:kL 0 b with
  |false=>simp[d]at h|true=>
   rw[u0]at d;have o:0≤b:=aZ d;obtain⟨n,rfl⟩:=Oc o;simp only[show kL 0 (n:Int)=true by rw[u0];exact d]at h;have j:¬((n:Int)<0):=by omega
   cases z with
   |c a=>
    simp only[eC]at h;cases f:BG T k a n with
    |none=>simp[f]at h|some q=>
     simp only[f,aB,aN]at h;obtain⟨rfl,rfl⟩:=h;exact⟨Pure.refl _,fun _=>⟨_,Xl w f t i,.int _ _⟩⟩
   |s a=>
    simp only[eC]at h;cases g:Nat.blt n k.bits with
    |false=>simp[g]at h|true=>
     have u:n<k.bits:=by simpa using g
     have l:min n k.bits=n:=Bi (by omega);cases T<;>simp only[g,aB,aN,reduceCtorEq]at h<;>obtain⟨rfl,rfl⟩:=h
     ·refine⟨Pure.refl _,fun p=>⟨_,?_,b5.int _ _⟩⟩;simp only[binOp,Op.shift,Z.v,j,ei,eC,l,Sem.fT,Ou]
     ·refine⟨Pure.refl _,fun p=>⟨_,?_,b5.int _ _⟩⟩;simp only[binOp,Op.shift,Z.v,j,ei,eC,l,Sem.fT];rw[Wc _ (by exact_mod_cast kI _)]
def vb(c:width n)(mk:BitVec n→af)(d:∀Q,b5 (mk Q) (.int (eG n) Q.toNat)){Q R:Option (BitVec n)}{a:Value}
 (e:∀b,Q=some b→V=.int (eG n) b.toNat) (f:∀b,R=some b→a=.int (eG n) b.toNat) (h:oB mk T Q R S=some (r,U)) (t:TypeId):
 Pure S U∧(U.ok→∃v,(binOp T t V a).aG P w=.ok v w∧b5 r v):=by
 unfold oB at h;cases Q with
 |none=>simp at h|some Q=>
  cases R with
  |none=>simp at h|some R=>
   rw[e Q rfl,f R rfl];exact Xe w c mk d T Q R t h
def vc:width 8:=.inl rfl
def ve:width 16:=.inr (.inl rfl)
def vf:width 32:=.inr (.inr (.inl rfl))
def vg:width 64:=.inr (.inr (.inr rfl))
def Xn(h:zh Q R T S=some (r,U))(t:TypeId):
 Pure S U∧(U.ok→∃v,(binOp T t Q.val R.val).aG P w=.ok v w∧b5 r v):=by
 have one:∀{n:Nat} (b c:BitVec n),some b=some c→(Value.int (eG n) b.toNat)=.int (eG n) c.toNat:=by
  intro n b c e;injection e with e;rw[e]
 cases Q with
 |int k a=>
  simp only[zh]at h;cases R with
  |int g b=>
   simp only[BI]at h;cases f:rQ k g with
   |false=>simp[f]at h|true=>
    simp only[f]at h;obtain rfl:=ER f;exact Xk w h t
  |bQ R=>exact vb w vc .bQ (fun Q=>b5.bQ Q) (fun b d=>bh.rX d) (fun b d=>one R b d) h t|cX R=>exact vb w ve .cX (fun Q=>b5.cX Q) (fun b d=>bh.Cc d) (fun b d=>one R b d) h t|aD R=>exact vb w vf .aD (fun Q=>b5.aD Q) (fun b d=>bh.u9 d) (fun b d=>one R b d) h t|au R=>exact vb w vg .au (fun Q=>b5.au Q) (fun b d=>bh.oN d) (fun b d=>one R b d) h t
 |bQ Q=>exact vb w vc .bQ (fun Q=>b5.bQ Q) (fun b d=>one Q b d) (fun b d=>bh.rX d) h t|cX Q=>exact vb w ve .cX (fun Q=>b5.cX Q) (fun b d=>one Q b d) (fun b d=>bh.Cc d) h t|aD Q=>exact vb w vf .aD (fun Q=>b5.aD Q) (fun b d=>one Q b d) (fun b d=>bh.u9 d) h t|au Q=>exact vb w vg .au (fun Q=>b5.au Q) (fun b d=>one Q b d) (fun b d=>bh.oN d) h t
def Xo(h:BH Q T R.z S=some (r,U))(t:TypeId):
 Pure S U∧(U.ok→∃v,(binOp T t Q.val R.val).aG P w=.ok v w∧b5 r v):=by
 cases Q with
 |int k z=>exact Xm w h t R.k|bQ Q=>exact EU w vc .bQ (fun Q=>b5.bQ Q) T Q R.z t R.k h|cX Q=>exact EU w ve .cX (fun Q=>b5.cX Q) T Q R.z t R.k h|aD Q=>exact EU w vf .aD (fun Q=>b5.aD Q) T Q R.z t R.k h|au Q=>exact EU w vg .au (fun Q=>b5.au Q) T Q R.z t R.k h
def Xp{Q R:af}(h:binop T Q R S=some (r,U))(t:TypeId):
 ∃a b,Q=.num a∧R=.num b∧Pure S U∧(U.ok→∃v,(binOp T t a.val b.val).aG P w=.ok v w∧b5 r v):=by
 unfold aA.binop at h;cases Q<;>try(simp at h;done)
 rename_i a;cases R<;>try(simp at h;done)
 rename_i b;refine⟨a,b,rfl,rfl,?_⟩;simp only at h;cases c:Ik T with
 |true=>simp only[c]at h;exact Xo w h t|false=>simp only[c]at h;exact Xn w h t
def EV{a b c d:af}(h:uO k n a b c d S=some (r,U))
 (f:b5 a (.int .u8 (IntKind.u8.wrap n))) (g:b5 b (.int .u16 (IntKind.u16.wrap n))) (i:b5 c (.int .u32 (IntKind.u32.wrap n))) (e:b5 d (.int .u64 (IntKind.u64.wrap n))):
 Pure S U∧(U.ok→b5 r (.int k (k.wrap n))):=by
 cases k<;>simp only[uO,aB,aN]at h<;>obtain⟨rfl,rfl⟩:=h
 case u8=>exact⟨Pure.refl _,fun _=>f⟩
 case u16=>exact⟨Pure.refl _,fun _=>g⟩
 case u32=>exact⟨Pure.refl _,fun _=>i⟩
 case u64=>exact⟨Pure.refl _,fun _=>e⟩
 all_goals
  refine⟨gi _ _,fun j=>?_⟩;have e:=aZ (gp j);rw[tv _ _ (by simp only[lo];omega) e];exact b5.int _ _
def mK(a:width m)(Q:BitVec n)(mk:BitVec m→af)(b:∀Q,b5 (mk Q) (.int (eG m) Q.toNat)):b5 (mk (Q.setWidth m)) (.int (eG m) ((eG m).wrap Q.toNat)):=by
 have:=b (Q.setWidth m);rw[va a];rw[kJ]at this
 rwa[←Ob]
def EW(a:width m)(Q:BitVec m)(mk:BitVec m→af)(b:∀Q,b5 (mk Q) (.int (eG m) Q.toNat)):b5 (mk Q) (.int (eG m) ((eG m).wrap Q.toNat)):=by
 rw[ET a];exact b Q
def EX(a:width m)(n:Int)(mk:BitVec m→af)(b:∀Q,b5 (mk Q) (.int (eG m) Q.toNat)):b5 (mk (BitVec.ofInt m n)) (.int (eG m) ((eG m).wrap n)):=by
 have:=b (BitVec.ofInt m n);rw[va a];rw[rJ,Ei (We _ (by rcases a with rfl|rfl|rfl|rfl<;>decide))]at this;exact this
def Xq{n:Int}(h:BJ n k S=some (r,U)):Pure S U∧(U.ok→b5 r (.int k (k.wrap n))):=by
 cases k<;>simp only[BJ,aB,aN]at h<;>obtain⟨rfl,rfl⟩:=h
 case u8=>exact⟨Pure.refl _,fun _=>EX vc n .bQ (fun Q=>b5.bQ Q)⟩
 case u16=>exact⟨Pure.refl _,fun _=>EX ve n .cX (fun Q=>b5.cX Q)⟩
 case u32=>exact⟨Pure.refl _,fun _=>EX vf n .aD (fun Q=>b5.aD Q)⟩
 case u64=>exact⟨Pure.refl _,fun _=>EX vg n .au (fun Q=>b5.au Q)⟩
 all_goals
  refine⟨gi _ _,fun b=>?_⟩;have a:=aZ (gp b);rw[tv _ _ a.1 a.2];exact b5.int _ _
def Xr(h:xg Q k S=some (r,U)):Pure S U∧(U.ok→b5 r (.int k (k.wrap Q.z.v))):=by
 have cE:∀{n:Nat} (Q:BitVec n),b5 (.num (.bQ (Q.setWidth 8))) (.int .u8 (IntKind.u8.wrap Q.toNat)):=fun Q=>mK vc Q .bQ (fun Q=>b5.bQ Q);have a:∀{n:Nat} (Q:BitVec n),b5 (.num (.cX (Q.setWidth 16))) (.int .u16 (IntKind.u16.wrap Q.toNat)):=fun Q=>mK ve Q .cX (fun Q=>b5.cX Q);have b:∀{n:Nat} (Q:BitVec n),b5 (.num (.aD (Q.setWidth 32))) (.int .u32 (IntKind.u32.wrap Q.toNat)):=fun Q=>mK vf Q .aD (fun Q=>b5.aD Q);have d:∀{n:Nat} (Q:BitVec n),b5 (.num (.au (Q.setWidth 64))) (.int .u64 (IntKind.u64.wrap Q.toNat)):=fun Q=>mK vg Q .au (fun Q=>b5.au Q);cases Q with
 |int e z=>
  cases z with
  |c n=>
   simp only[xg,aB,aN]at h;obtain⟨rfl,rfl⟩:=h;refine⟨Pure.refl _,fun _=>?_⟩;have:=b5.int k (.c (qy k n));rw[u5]at this;simpa[Z.v,bh.z,u5]using this
  |s n=>exact Xq h
 |bQ Q=>exact EV h (EW vc Q .bQ (fun Q=>b5.bQ Q)) (a Q) (b Q) (d Q)|cX Q=>exact EV h (cE Q) (EW ve Q .cX (fun Q=>b5.cX Q)) (b Q) (d Q)|aD Q=>exact EV h (cE Q) (a Q) (EW vf Q .aD (fun Q=>b5.aD Q)) (d Q)|au Q=>exact EV h (cE Q) (a Q) (b Q) (EW vg Q .au (fun Q=>b5.au Q))
def EY(a:width n)(Q:BitVec n):(eG n).wrap (0-(Q.toNat:Int))=((0#n-Q).toNat:Int):=by
 have d:=Q.isLt;rw[va a,kH];have b:(0#n).toNat=0:=by simp
 have c:((2^n-Q.toNat+(0#n).toNat:Nat):Int)=(0-(Q.toNat:Int))+((2^n:Nat):Int):=by rw[b];omega
 rw[Ob,c,V9]
def EZ(a:width n)(Q:BitVec n):(Op.intBits .xor (eG n) (if(eG n).signed then -1 else(eG n).max) Q.toNat).aG P w=.ok (.int (eG n) ((~~~Q).toNat)) w:=by
 have b:=ET a (~~~Q);rw[←aoa]at b;rcases a with rfl|rfl|rfl|rfl<;>
  simp only[Op.intBits,eG,IntKind.bits,IntKind.signed,IntKind.max,uF,V7,V8,Sem.fT,Result.ok.injEq,Value.int.injEq,HU,uG,←aoa,m8,ei]<;>
  exact b
def Xs{T:UnOp}{Q:af}(a:b5 Q V)(h:unop T Q=some r):∃v,(Op.unary T V).aG P w=.ok v w∧b5 r v:=by
 cases a with
 |bool b=>
  cases T<;>simp only[unop,aB,reduceCtorEq]at h;subst h;exact⟨_,rfl,by rw[←B.IE];exact .bool _⟩
 |num n=>
  cases T<;>simp only[unop,aB,reduceCtorEq]at h
  ·cases n with
   |int k z=>
    cases z<;>simp only[zi,aB,reduceCtorEq]at h;subst h;rename_i n;exact⟨_,rfl,by have:=b5.int k (.c (qy k (0-n)));rw[u5]at this⊢;exact this⟩
   |bQ Q=>simp only[zi,aB]at h;subst h;exact⟨_,rfl,by have:=b5.bQ (0#8-Q);rw[←EY vc]at this;exact this⟩
   |cX Q=>simp only[zi,aB]at h;subst h;exact⟨_,rfl,by have:=b5.cX (0#16-Q);rw[←EY ve]at this;exact this⟩
   |aD Q=>simp only[zi,aB]at h;subst h;exact⟨_,rfl,by have:=b5.aD (0#32-Q);rw[←EY vf]at this;exact this⟩
   |au Q=>simp only[zi,aB]at h;subst h;exact⟨_,rfl,by have:=b5.au (0#64-Q);rw[←EY vg]at this;exact this⟩
  ·cases n with
   |int k z=>
    cases z<;>simp only[zj,aB,reduceCtorEq]at h;subst h;rename_i n;exact⟨_,rfl,b5.int k (.c _)⟩
   |bQ Q=>simp only[zj,aB]at h;subst h;exact⟨_,EZ w vc Q,.bQ _⟩|cX Q=>simp only[zj,aB]at h;subst h;exact⟨_,EZ w ve Q,.cX _⟩|aD Q=>simp only[zj,aB]at h;subst h;exact⟨_,EZ w vf Q,.aD _⟩|au Q=>simp only[zj,aB]at h;subst h;exact⟨_,EZ w vg Q,.au _⟩
end
end
section
open Conc
abbrev Rel:=World→World→Prop
abbrev vh:=World→World→Array Event→Prop
abbrev lu:=Goroutine→World→Prop
inductive Way(P:Program)(main:Bool)(R:Rel)(D:vh)(Stop:lu):Goroutine→World→Prop
 |stop {g:Goroutine} {w:World}:(∀Q,R w Q→Stop g Q)→Way P main R D Stop g w
 |step {g:Goroutine} {w:World}:g.status=.running→
  (∀Q,R w Q→∃g' w' es,stepG P main g Q=.go g' w' es∧D Q w' es)→
  (∀Q g' w' es,R w Q→stepG P main g Q=.go g' w' es→Way P main R D Stop g' w')→Way P main R D Stop g w
variable{P:Program}{main:Bool}{R:Rel}{D:vh}{Stop S:lu}{g:Goroutine}{w Q:World}
def Way.mono(b:∀g w,Stop g w→S g w)(h:Way P main R D Stop g w):Way P main R D S g w:=by
 induction h with
 |stop h=>exact .stop fun Q a=>b _ _ (h Q a)|step c h _ d=>exact .step c h fun Q g' w' e a f=>d Q g' w' e a f
def Way.one(f:g.status=.running)(h:∀Q,R w Q→∃g' w' a,stepG P main g Q=.go g' w' a∧D Q w' a∧Way P main R D Stop g' w'):Way P main R D Stop g w:=
 .step f (fun Q b=>let⟨g',w',a,c,d,_⟩:=h Q b;⟨g',w',a,c,d⟩) fun Q g' w' a b c=>by
  obtain⟨j,k,l,e,_,i⟩:=h Q b;rw[c]at e;cases e;exact i
def Way.trans(d:∀w,R w w)(aH:∀a b c,R a b→R b c→R a c)(h:Way P main R D Stop g w)(k:∀g w,Stop g w→Way P main R D S g w):Way P main R D S g w:=by
 induction h with
 |@stop g w h=>
  have e:=k g w (h w (d w));exact e
 |step f h _ i=>exact .step f h fun Q g' w' j l m=>i Q g' w' j l m
def Way.vi(aH:∀a b c,R a b→R b c→R a c){n:Nat}(h:Goes P main R D Stop n g w):Way P main R D Stop g w:=by
 induction n generalizing g w with
 |zero=>exact .stop h|succ n e=>
  rcases h with h|⟨f,h⟩
  ·exact .stop h
  ·refine .one f fun Q i=>?_;have:=h Q i;cases d:stepG P main g Q with
   |go g' w' j=>rw[d]at this;exact⟨g',w',j,rfl,this.1,e this.2⟩|_=>rw[d]at this;exact this.elim
def Way.OS{j:Rel}{k:vh}(f:∀a b,j a b→R a b)(l:∀a b c,D a b c→k a b c)(h:Way P main R D Stop g w):Way P main j k Stop g w:=by
 induction h with
 |stop h=>exact .stop fun Q e=>h Q (f _ _ e)|step m h _ n=>
  refine .step m (fun Q e=>?_) fun Q g' w' c e i=>n Q g' w' c (f _ _ e) i;obtain⟨g',w',c,i,d⟩:=h Q (f _ _ e);exact⟨g',w',c,i,l _ _ _ d⟩
inductive b8 where
 |leaf|node (f:World→b8)
inductive b8.Below:b8→b8→Prop
 |mk (f:World→b8) (w:World):b8.Below (f w) (.node f)
def b8.wf:WellFounded b8.Below:=⟨fun t=>by
 induction t with
 |leaf=>exact⟨_,fun a h=>by cases h⟩
 |node f b=>exact⟨_,fun a h=>by cases h;exact b _⟩⟩
def eW(P:Program)(main:Bool)(R:Rel)(D:vh)(Stop:lu):b8→Goroutine→World→Prop|.leaf,g,w=>∀Q,R w Q→Stop g Q|.node f,g,w=>g.status=.running∧∀Q,R w Q→∃g' w' a,stepG P main g Q=.go g' w' a∧D Q w' a∧eW P main R D Stop (f Q) g' w'
def eW.rely(aH:∀a b c,R a b→R b c→R a c){t:b8}(h:eW P main R D Stop t g w)(i:R w Q):eW P main R D Stop t g Q:=by
 cases t with
 |leaf=>exact fun d e=>h d (aH _ _ _ i e)|node f=>exact⟨h.1,fun d e=>h.2 d (aH _ _ _ i e)⟩
def eW.status(a:∀w,R w w)(b:∀g w,Stop g w→g.status=.running){t:b8}(h:eW P main R D Stop t g w):g.status=.running:=by
 cases t with
 |leaf=>exact b g w (h w (a w))|node f=>exact h.1
open Classical in
def Way.iK(h:Way P main R D Stop g w):∃t,eW P main R D Stop t g w:=by
 induction h with
 |stop h=>exact⟨.leaf,h⟩|@step g w f h _ i=>
  have c:∀Q,∃t,R w Q→∃g' w' a,stepG P main g Q=.go g' w' a∧D Q w' a∧eW P main R D Stop t g' w':=by
   intro Q;by_cases b:R w Q
   ·obtain⟨g',w',a,e,d⟩:=h Q b;obtain⟨t,j⟩:=i Q g' w' a b e;exact⟨t,fun _=>⟨g',w',a,e,d,j⟩⟩
   ·exact⟨.leaf,fun k=>absurd k b⟩
  exact⟨.node fun Q=>(c Q).choose,f,fun Q b=>(c Q).choose_spec b⟩
def eW.cases(c:∀w,R w w){t:b8}(h:eW P main R D Stop t g w):
 (t=.leaf∧∀Q,R w Q→Stop g Q)∨∃b g' w' a,b8.Below b t∧stepG P main g w=.go g' w' a∧D w w' a∧eW P main R D Stop b g' w':=by
 cases t with
 |leaf=>exact .inl ⟨rfl,h⟩|node f=>
  obtain⟨g',w',a,e,d,k⟩:=h.2 w (c w);exact .inr ⟨f w,g',w',a,.mk f w,e,d,k⟩
inductive gA(P:Program)(main:Bool)(R N:Rel)(D:vh)(Stop:lu):Goroutine→World→Prop
 |stop {g:Goroutine} {w:World}:(∀Q,R w Q→Stop g Q)→gA P main R N D Stop g w
 |step {g:Goroutine} {w:World}:g.status=.running→
  (∀Q,R w Q→∃g' w' es,stepG P main g Q=.go g' w' es∧(N Q w'→D Q w' es))→
  (∀Q g' w' es,R w Q→stepG P main g Q=.go g' w' es→N Q w'→gA P main R N D Stop g' w')→gA P main R N D Stop g w
section
variable{N:Rel}
def Way.toN(h:Way P main R D Stop g w):gA P main R N D Stop g w:=by
 induction h with
 |stop h=>exact .stop h|step e h _ f=>exact .step e (fun Q a=>let⟨g',w',b,c,d⟩:=h Q a;⟨g',w',b,c,fun _=>d⟩) fun Q g' w' b a c _=>f Q g' w' b a c
def gA.one(f:g.status=.running)(h:∀Q,R w Q→∃g' w' a,stepG P main g Q=.go g' w' a∧(N Q w'→D Q w' a∧gA P main R N D Stop g' w')):gA P main R N D Stop g w:=
 .step f (fun Q b=>let⟨g',w',a,c,d⟩:=h Q b;⟨g',w',a,c,fun n=>(d n).1⟩) fun Q g' w' a b c n=>by
  obtain⟨i,j,k,e,d⟩:=h Q b;rw[c]at e;cases e;exact(d n).2
def gA.trans(a:∀w,R w w)(h:gA P main R N D Stop g w)(k:∀g w,Stop g w→gA P main R N D S g w):gA P main R N D S g w:=by
 induction h with
 |@stop g w h=>exact k g w (h w (a w))|step b h _ c=>exact .step b h fun Q g' w' d e f n=>c Q g' w' d e f n
def oO(P:Program)(main:Bool)(R N:Rel)(D:vh)(Stop:lu):b8→Goroutine→World→Prop|.leaf,g,w=>∀Q,R w Q→Stop g Q|.node f,g,w=>g.status=.running∧∀Q,R w Q→∃g' w' a,stepG P main g Q=.go g' w' a∧(N Q w'→D Q w' a∧oO P main R N D Stop (f Q) g' w')
def oO.rely(aH:∀a b c,R a b→R b c→R a c){t:b8}(h:oO P main R N D Stop t g w)(i:R w Q):oO P main R N D Stop t g Q:=by
 cases t with
 |leaf=>exact fun d e=>h d (aH _ _ _ i e)|node f=>exact⟨h.1,fun d e=>h.2 d (aH _ _ _ i e)⟩
def oO.status(a:∀w,R w w)(b:∀g w,Stop g w→g.status=.running){t:b8}(h:oO P main R N D Stop t g w):g.status=.running:=by
 cases t with
 |leaf=>exact b g w (h w (a w))|node f=>exact h.1
open Classical in
def gA.iK(h:gA P main R N D Stop g w):∃t,oO P main R N D Stop t g w:=by
 induction h with
 |stop h=>exact⟨.leaf,h⟩|@step g w i h _ j=>
  have f:∀Q,∃t,R w Q→∃g' w' a,stepG P main g Q=.go g' w' a∧(N Q w'→D Q w' a∧oO P main R N D Stop t g' w'):=by
   intro Q;by_cases b:R w Q
   ·obtain⟨g',w',a,c,d⟩:=h Q b;by_cases n:N Q w'
    ·obtain⟨t,k⟩:=j Q g' w' a b c n;exact⟨t,fun _=>⟨g',w',a,c,fun n=>⟨d n,k⟩⟩⟩
    ·exact⟨.leaf,fun _=>⟨g',w',a,c,fun e=>absurd e n⟩⟩
   ·exact⟨.leaf,fun e=>absurd e b⟩
  exact⟨.node fun Q=>(f Q).choose,i,fun Q b=>(f Q).choose_spec b⟩
def oO.cases(c:∀w,R w w){t:b8}(h:oO P main R N D Stop t g w):
 (t=.leaf∧∀Q,R w Q→Stop g Q)∨∃b g' w' a,b8.Below b t∧stepG P main g w=.go g' w' a∧(N w w'→D w w' a∧oO P main R N D Stop b g' w'):=by
 cases t with
 |leaf=>exact .inl ⟨rfl,h⟩|node f=>
  obtain⟨g',w',a,e,d⟩:=h.2 w (c w);exact .inr ⟨f w,g',w',a,.mk f w,e,d⟩
end
end
section
open Conc
open Go.ConcR (stA smA Bk)
open Go.ConcN (RelBy fork_knows RelBy.appOther RelBy.book)
variable{fn:FuncId}{pos:String}{es:Array Event}{P:Event}{k g Q:Nat}{qC:Nat→Nat}{rel':Nat→Prop}{i:Nat}
def pQ(Wg:Nat)(l:Loc):Prop:=∃a,l=.cell a∧a.block=Wg
structure tw(Sh:Loc→Prop)(Wg:Nat)(Own:Nat→Loc→Prop)(bL:Loc→Prop)(aY:Nat):Prop where
 own:∀k oA l,Own k l→Own oA l→k=oA
 Cd:∀k l,Own k l→¬bL l
 ownSh:∀k l,Own k l→¬Sh l
 IL:∀k l,Own k l→¬pQ Wg l
 OT:∀l,bL l→¬Sh l
 E0:∀l,bL l→¬pQ Wg l
 aY:0<aY
structure E1(Sh:Loc→Prop)(Wg:Nat)(Own:Nat→Loc→Prop)(bL:Loc→Prop)(aY j:Nat)(T:Trace):Prop where
 clean:∀said,¬Race said T
 known0:∀i a,touchAt T i=some a→a.loc.isMemory=true→Knows T 0 i∨(Sh a.loc∧a.kind=.atomic)∨(pQ Wg a.loc∧a.kind=.atomic)∨
  ∃k,k<j∧T.g? i=some (aY+k)∧a.kind=.plain∧(Own k a.loc∨(bL a.loc∧a.write=false))
 E2:∀k,k<j→∀i a,touchAt T i=some a→a.loc.isMemory=true→Own k a.loc∨(bL a.loc∧a.write=true)→Knows T (aY+k) i
 zM:∀i a,touchAt T i=some a→pQ Wg a.loc→a.kind≠.plain∧(a.kind=.said→T.g? i=some 0)
 over:∀i g,T.g? i=some g→g≠0→(∀k,k<j→g≠aY+k)→T.counts i→∃h,T.g? h=some 0∧HappensBefore T i h
section
variable{Sh:Loc→Prop}{Wg:Nat}{Own:Nat→Loc→Prop}{bL:Loc→Prop}{aY j B d0:Nat}{T u:Trace}{g6:Nat→Nat}{rel:Nat→Prop}
def Ce{a:Touch}(h:touchAt (T++u) i=some a):(touchAt T i=some a∧i<T.size)∨(T.size≤i∧∃b,(T++u)[i]? =some b∧b∈u∧b.act.touch?=some a):=by
 obtain⟨f,d,e⟩:=touch_of h;rcases getElem?_append_cases d with⟨c,l⟩|⟨c,m⟩
 ·exact .inl ⟨by rw[touchAt_of l];exact e,c⟩
 ·exact .inr ⟨c,f,d,m,e⟩
def IM{a:MemOp}(h:(T++u)[i]? =some a):(T++u).g? i=some a.g:=by simp[Trace.g?,h]
def Xt(Wg:Nat)(Own:Nat→Loc→Prop)(bL:Loc→Prop)(aY j g:Nat)(a:Touch):Prop:=
 (pQ Wg a.loc∧a.kind≠.plain∧(a.kind=.said→g=0))∨(a.kind=.plain∧((∃k,k<j∧g=aY+k∧Own k a.loc)∨(bL a.loc∧a.write=false)))
def E1.app(l:tw Sh Wg Own bL aY)(h:E1 Sh Wg Own bL aY j T)(p:g=0∨(∃k,k<j∧g=aY+k)∨∀d∈u,d.act.touch?=none)(t:∀d∈u,d.g=g)(C:∀d∈u,∀e,d.act.touch?=some e→Xt Wg Own bL aY j g e):
 E1 Sh Wg Own bL aY j (T++u):=by
 have q:=l.aY;refine⟨fun U=>noRace_append (h.clean U) t fun i a m d aP b v q=>?_,fun i a m H=>?_,fun k n i a m H c=>?_,fun i a m o=>?_,fun i e I L h1 M=>?_⟩
 ·rcases C d aP b v with⟨o,n,w⟩|⟨n,⟨k,r,rfl,c⟩|⟨x,D⟩⟩
  ·have:=h.zM i a m (q.1▸o);rcases q.2.2.2 with e|e|⟨_,e,N⟩
   ·exact absurd e this.1
   ·exact absurd e n
   ·obtain⟨z,V,W⟩:=bU.1 (this.2 e);have y:=knows_own V;rw[W]at y;rw[w N];exact y
  ·exact h.E2 k r i a m q.2.1 (.inl (q.1▸c))
  ·have E:bL a.loc:=q.1▸x;have O:a.write=true:=q.2.2.1.resolve_right (by simp[D]);rcases p with rfl|⟨k,r,rfl⟩|p
   ·rcases h.known0 i a m q.2.1 with e|⟨e,_⟩|⟨e,_⟩|⟨k,_,_,_,e|⟨_,e⟩⟩
    ·exact e
    ·exact absurd e (l.OT _ E)
    ·exact absurd e (l.E0 _ E)
    ·exact absurd E (l.Cd _ _ e)
    ·rw[O]at e;cases e
   ·exact h.E2 k r i a m q.2.1 (.inr ⟨E,O⟩)
   ·rw[p d aP]at v;cases v
 ·rcases Ce m with⟨A,J⟩|⟨_,d,aP,f,s⟩
  ·rw[g?_old J];exact(h.known0 i a A H).imp (·.app _) id
  ·rcases p with rfl|⟨k,r,X⟩|p
   ·have:=knows_own aP;rw[t d f]at this;exact .inl this
   ·rcases C d f a s with⟨o,n,w⟩|⟨n,c⟩
    ·refine .inr (.inr (.inl ⟨o,?_⟩));cases P:a.kind with
     |plain=>exact absurd P n|atomic=>rfl|said=>have:=w P;omega
    ·refine .inr (.inr (.inr ⟨k,r,by rw[IM aP,t d f,X],n,?_⟩));rcases c with⟨K,_,P,c⟩|c
     ·obtain rfl:K=k:=by omega
      exact .inl c
     ·exact .inr c
   ·rw[p d f]at s;cases s
 ·rcases Ce m with⟨A,_⟩|⟨_,d,aP,f,s⟩
  ·exact(h.E2 k n i a A H c).app _
  ·have y:=knows_own aP;rw[t d f]at y;rcases C d f a s with⟨o,_⟩|⟨_,⟨K,_,rfl,F⟩|⟨x,D⟩⟩
   ·rcases c with c|⟨c,_⟩
    ·exact absurd o (l.IL _ _ c)
    ·exact absurd o (l.E0 _ c)
   ·rcases c with c|⟨c,_⟩
    ·obtain rfl:=l.own _ _ _ c F;exact y
    ·exact absurd c (l.Cd _ _ F)
   ·rcases c with c|⟨_,c⟩
    ·exact absurd x (l.Cd _ _ c)
    ·rw[D]at c;cases c
 ·rcases Ce m with⟨A,J⟩|⟨_,d,aP,f,s⟩
  ·rw[g?_old J];exact h.zM i a A o
  ·rcases C d f a s with⟨_,n,w⟩|⟨_,⟨K,_,rfl,F⟩|⟨x,D⟩⟩
   ·exact⟨n,fun P=>by rw[IM aP,t d f,w P]⟩
   ·exact absurd o (l.IL _ _ F)
   ·exact absurd o (l.E0 _ x)
 ·obtain⟨N,Y,_⟩:=id M;obtain⟨d,aP,R⟩:=touch_of Y;rcases getElem?_append_cases aP with⟨hi,_⟩|⟨_,f⟩
  ·obtain⟨Z,S,v⟩:=h.over i e (by rw[←g?_old (u:=u) hi];exact I) L h1 ((counts_old hi).1 M);exact⟨Z,by rw[g?_old (lt_of_g? S)];exact S,hb_app u v⟩
  ·have P:d.g=e:=by rw[IM aP]at I;exact dV I
   rw[t d f]at P;rcases p with rfl|⟨k,r,rfl⟩|p
   ·exact absurd P.symm L
   ·exact absurd P.symm (h1 k r)
   ·rw[p d f]at R;cases R
structure fF(Sh:Loc→Prop)(Wg:Nat)(Own:Nat→Loc→Prop)(bL:Loc→Prop)(aY j B d0:Nat)(g6:Nat→Nat)(rel:Nat→Prop)(T:Trace):Prop where
 bD:E1 Sh Wg Own bL aY j T
 deaf0:Deaf T 0=d0
 deafW:∀k,k<j→Deaf T (aY+k)=g6 k
 norel:NoRelease (stA Wg) T
 seen:∀op∈T,op.act.low B
 rel:∀k,k<j→rel k→∃r,RelBy (stA Wg) T (aY+k) r
def Xu(h:P.mute=true)(a:Addr):MemAct.ofEvent P≠.mark (.release a):=by
 obtain⟨b,wr,c⟩:=P;cases b with
 |mark m=>cases m<;>simp_all[Event.mute,MemAct.ofEvent]
 |_=>simp_all[Event.mute]
def IN(h:Bk Wg P){c:Touch}(b:(MemAct.ofEvent P).touch?=some c):pQ Wg c.loc∧c.kind=.atomic:=by
 rcases h with h1|h1|⟨a,wr,rfl,d⟩
 ·rw[Ej h1]at b;cases b
 ·rw[Ej h1]at b;cases b
 ·rw[Wf]at b;simp only[MemAct.touch?,aB]at b;subst b;exact⟨⟨a,rfl,d⟩,by simp⟩
def OU(h:Bk Wg P)(a:Addr):MemAct.ofEvent P≠.mark (.release a):=by
 rcases h with h1|h1|⟨b,wr,rfl,_⟩
 ·rw[Ej h1];simp
 ·rw[Ej h1];simp
 ·rw[Wf];simp
def OV(h:Bk Wg P)(cQ:Wg<B):(MemAct.ofEvent P).low B:=by
 rcases h with h1|h1|⟨b,wr,rfl,a⟩
 ·rw[Ej h1];trivial
 ·rw[Ej h1];trivial
 ·rw[Wf];show b.block<B;omega
def Ev0(Wg:Nat)(bL:Loc→Prop)(B:Nat)(P:Event):Prop:=
 (∀a,(MemAct.ofEvent P).touch?=some a→(pQ Wg a.loc∧a.kind≠.plain)∨(bL a.loc∧a.kind=.plain∧a.write=false))∧MemAct.ofEvent P≠.mark (.release (stA Wg))∧(MemAct.ofEvent P).low B
def IP(Wg:Nat)(Own:Nat→Loc→Prop)(bL:Loc→Prop)(k B:Nat)(P:Event):Prop:=
 (∀a,(MemAct.ofEvent P).touch?=some a→(a.kind=.plain∧(Own k a.loc∨(bL a.loc∧a.write=false)))∨(a.kind=.atomic∧pQ Wg a.loc))∧MemAct.ofEvent P≠.mark (.release (stA Wg))∧(MemAct.ofEvent P).low B
def E3{b:Event→Prop}(h:∀P∈es,b P):∀a∈MemOp.ofEvents g fn pos es,a.g=g∧∃P,b P∧a.act=.ofEvent P:=fun a aP=>by
 obtain⟨P,c,rfl⟩:=Ek aP;exact⟨rfl,P,h P c,rfl⟩
def seen_app(h:∀a∈T,a.act.low B)(cQ:B≤Q)(b:∀a∈u,a.act.low Q):∀a∈T++u,a.act.low Q:=fun a aP=>
 (y6.1 aP).elim (fun c=>MemAct.low_mono cQ (h a c)) (b a)
def fF.main(f:tw Sh Wg Own bL aY)(h:fF Sh Wg Own bL aY j B d0 g6 rel T)(cQ:B≤Q)(m:∀P∈es,Ev0 Wg bL Q P):
 fF Sh Wg Own bL aY j Q (deafBehind d0 es) g6 rel (T++MemOp.ofEvents 0 fn pos es):=by
 have b:=E3 (g:=0) (fn:=fn) (pos:=pos) m;have l:∀k,0≠aY+k:=fun k=>by have:=f.aY;omega
 refine⟨h.bD.app f (.inl rfl) (fun a aP=>(b a aP).1) fun a aP n o=>?_,by rw[Deaf_own,h.deaf0],fun k e=>by rw[Deaf_other T (g':=0) (l k) _ (fun a aP=>(b a aP).1),h.deafW k e],
  h.norel.app fun a aP=>by obtain⟨_,P,c,d⟩:=b a aP;rw[d];exact c.2.1,seen_app h.seen cQ fun a aP=>by obtain⟨_,P,c,d⟩:=b a aP;rw[d];exact c.2.2,
  fun k e P=>let⟨r,p⟩:=h.rel k e P;⟨r,p.appOther (fun a aP=>(b a aP).1) (l k)⟩⟩
 obtain⟨_,P,c,d⟩:=b a aP;rcases c.1 n (d▸o)with⟨h1,h2⟩|⟨h1,h2,h3⟩
 ·exact .inl ⟨h1,h2,fun _=>rfl⟩
 ·exact .inr ⟨h2,.inr ⟨h1,h3⟩⟩
def fF.others(h:fF Sh Wg Own bL aY j B d0 g6 rel T):∀a,a<j→a≠k→Deaf (T++MemOp.ofEvents (aY+k) fn pos es) (aY+a)=g6 a∧(rel a→∃r,RelBy (stA Wg) (T++MemOp.ofEvents (aY+k) fn pos es) (aY+a) r):=by
 intro a b f;have c:∀d∈MemOp.ofEvents (aY+k) fn pos es,d.g=aY+k:=fun d aP=>by obtain⟨P,_,rfl⟩:=Ek aP;rfl
 exact⟨by rw[Deaf_other T (g':=aY+k) (by omega) _ c,h.deafW a b],fun P=>let⟨r,e⟩:=h.rel a b P;⟨r,e.appOther c (by omega)⟩⟩
def fF.IQ(m:tw Sh Wg Own bL aY)(h:fF Sh Wg Own bL aY j B d0 g6 rel T)(f:k<j)(p:¬rel k)(cQ:B≤Q)(q:∀P∈es,IP Wg Own bL k Q P)(r:qC k=deafBehind (g6 k) es)(s:∀i,i≠k→qC i=g6 i):
 fF Sh Wg Own bL aY j Q d0 qC rel (T++MemOp.ofEvents (aY+k) fn pos es):=by
 have c:=E3 (g:=aY+k) (fn:=fn) (pos:=pos) q;have n:=h.others (k:=k) (fn:=fn) (pos:=pos) (es:=es);have w:=m.aY;refine⟨h.bD.app m (.inr (.inl ⟨k,f,rfl⟩)) (fun a aP=>(c a aP).1) fun a aP t v=>?_,by rw[Deaf_other T (g':=aY+k) (by omega) _ (fun a aP=>(c a aP).1),h.deaf0],fun b l=>?_,
  h.norel.app fun a aP=>by obtain⟨_,P,d,e⟩:=c a aP;rw[e];exact d.2.1,seen_app h.seen cQ fun a aP=>by obtain⟨_,P,d,e⟩:=c a aP;rw[e];exact d.2.2,fun b l P=>?_⟩
 ·obtain⟨_,P,d,e⟩:=c a aP;rcases d.1 t (e▸v)with⟨h1,h2|h2⟩|⟨h1,h2⟩
  ·exact .inr ⟨h1,.inl ⟨k,f,rfl,h2⟩⟩
  ·exact .inr ⟨h1,.inr h2⟩
  ·exact .inl ⟨h2,by rw[h1];simp,fun P=>by rw[h1]at P;cases P⟩
 ·by_cases P:b=k
  ·subst P;rw[Deaf_own,h.deafW _ f,r]
  ·rw[s b P];exact(n b l P).1
 ·by_cases o:b=k
  ·subst o;exact absurd P p
  ·exact(n b l o).2 P
def fF.book(m:tw Sh Wg Own bL aY)(h:fF Sh Wg Own bL aY j B d0 g6 rel T)(f:k<j)(q:Wg<B)(n:∀P∈es,Bk Wg P)
 (s:∀i P,es[i]? =some P→(MemAct.ofEvent P).touch?=none∨0<deafBehind (g6 k) (es.extract 0 i)) (t:qC k=deafBehind (g6 k) es) (v:∀i,i≠k→qC i=g6 i):
 fF Sh Wg Own bL aY j B d0 qC rel (T++MemOp.ofEvents (aY+k) fn pos es):=by
 have c:=E3 (g:=aY+k) (fn:=fn) (pos:=pos) n;have o:=h.others (k:=k) (fn:=fn) (pos:=pos) (es:=es);have y:=m.aY;refine⟨h.bD.app m (.inr (.inl ⟨k,f,rfl⟩)) (fun a aP=>(c a aP).1) fun a aP z w=>?_,by rw[Deaf_other T (g':=aY+k) (by omega) _ (fun a aP=>(c a aP).1),h.deaf0],fun b l=>?_,
  h.norel.app fun a aP=>by obtain⟨_,P,d,e⟩:=c a aP;rw[e];exact OU d _,seen_app h.seen (aX _) fun a aP=>by obtain⟨_,P,d,e⟩:=c a aP;rw[e];exact OV d q,fun b l P=>?_⟩
 ·obtain⟨_,P,d,e⟩:=c a aP;obtain⟨h1,h2⟩:=IN d (e▸w);exact .inl ⟨h1,by rw[h2];simp,fun P=>by rw[h2]at P;cases P⟩
 ·by_cases P:b=k
  ·subst P;rw[Deaf_own,h.deafW _ f,t]
  ·rw[v b P];exact(o b l P).1
 ·by_cases p:b=k
  ·subst p;obtain⟨r,x⟩:=h.rel _ f P;exact⟨r,x.book (h.deafW _ f) fn pos n s⟩
  ·exact(o b l p).2 P
def fF.release(f:tw Sh Wg Own bL aY)(h:fF Sh Wg Own bL aY j B d0 g6 rel T)(l:k<j)(q:g6 k=0)(r:Wg<B)(s:∀i,i≠k→rel' i→rel i):
 fF Sh Wg Own bL aY j B d0 g6 rel' (T++MemOp.ofEvents (aY+k) fn pos #[Go.ConcR.mk (.releaseMerge (stA Wg))]):=by
 have c:∀a∈MemOp.ofEvents (aY+k) fn pos #[Go.ConcR.mk (.releaseMerge (stA Wg))],a.g=aY+k∧a.act=.mark (.releaseMerge (stA Wg)):=by
  intro a aP;obtain⟨P,m,rfl⟩:=Ek aP;simp at m;subst m;exact⟨rfl,rfl⟩
 have n:=h.others (k:=k) (fn:=fn) (pos:=pos) (es:=#[Go.ConcR.mk (.releaseMerge (stA Wg))]);have t:=f.aY;have o:=h.deafW k l;refine⟨h.bD.app f (.inr (.inl ⟨k,l,rfl⟩)) (fun a aP=>(c a aP).1) fun a aP v p=>(by rw[(c a aP).2]at p;cases p),by rw[Deaf_other T (g':=aY+k) (by omega) _ (fun a aP=>(c a aP).1),h.deaf0],fun b d=>?_,
  h.norel.app fun a aP=>by rw[(c a aP).2];simp,seen_app h.seen (aX _) fun a aP=>by rw[(c a aP).2];exact r,fun b d P=>?_⟩
 ·by_cases P:b=k
  ·subst P;rw[Deaf_own,o];rfl
  ·exact(n b d P).1
 ·by_cases e:b=k
  ·subst e;exact⟨_,RelBy.new (o.trans q) fn pos⟩
  ·exact(n b d e).2 (s b e P)
def fF.mute(m:tw Sh Wg Own bL aY)(h:fF Sh Wg Own bL aY j B d0 g6 rel T)(n:g≠0)(h1:∀k,k<j→g≠aY+k)(o:∀P∈es,P.mute=true):fF Sh Wg Own bL aY j B d0 g6 rel (T++MemOp.ofEvents g fn pos es):=by
 have b:=E3 (g:=g) (fn:=fn) (pos:=pos) o;have f:∀a∈MemOp.ofEvents g fn pos es,a.act.touch?=none:=fun a aP=>by obtain⟨_,P,c,d⟩:=b a aP;rw[d];exact touch_mute c
 exact⟨h.bD.app m (.inr (.inr f)) (fun a aP=>(b a aP).1) fun a aP q l=>(by rw[f a aP]at l;cases l),(Deaf_other T n _ fun a aP=>(b a aP).1).trans h.deaf0,fun k e=>(Deaf_other T (h1 k e) _ fun a aP=>(b a aP).1).trans (h.deafW k e),
  h.norel.app fun a aP=>by obtain⟨_,P,c,d⟩:=b a aP;rw[d];exact Xu c _,seen_app h.seen (aX _) fun a aP=>by obtain⟨_,P,c,d⟩:=b a aP;rw[d];exact low_mute c B,
  fun k e P=>let⟨r,p⟩:=h.rel k e P;⟨r,p.appOther (fun a aP=>(b a aP).1) (h1 k e)⟩⟩
def fF.OW(h:fF Sh Wg Own bL aY j B d0 g6 rel T)(P:∀k,k<j→rel' k→rel k):fF Sh Wg Own bL aY j B d0 g6 rel' T:=⟨h.bD,h.deaf0,h.deafW,h.norel,h.seen,fun k a b=>h.rel k a (P k a b)⟩
def fF.IR(h:Past Sh B T)(v:B≤Wg):fF Sh Wg Own bL aY 0 B 0 g6 rel T:=by
 have low:∀i a,touchAt T i=some a→∀ad,a.loc=.cell ad→ad.block<B:=fun i a c ad P=>by
  obtain⟨f,l,b⟩:=touch_of c;have:=h.seen f (mem_of_getElem? l);cases e:f.act with
  |access ev=>
   rw[e]at b this;simp only[MemAct.touch?,aB]at b;subst b;simp only at P;simp only[MemAct.low]at this;rw[P]at this;exact this
  |mark m=>rw[e]at b this;cases m<;>simp only[MemAct.touch?,aB,reduceCtorEq]at b<;>subst b<;>cases P<;>exact this
  |_=>rw[e]at b;cases b
 refine⟨⟨h.clean,fun i a c n=>(h.known i a c n).imp id .inl,fun k d=>absurd d (ox _),fun i a c ⟨ad,P,w⟩=>absurd (low i a c ad P) (by omega),fun i g o p _ q=>h.over i g o p q⟩,h.hears,fun k d=>absurd d (ox _),fun i hi=>?_,h.seen,fun k d=>absurd d (ox _)⟩;obtain⟨r,s,t⟩:=bU.1 hi;have:=h.seen r (mem_of_getElem? s);rw[t]at this;simp only[MemAct.low,stA]at this;omega
def fF.fork(e:tw Sh Wg Own bL aY)(h:fF Sh Wg Own bL aY j B 0 g6 rel T)(A:Deaf T (aY+j)=0){f l:MemOp}(o:f.g=0∧f.act=.go (aY+j))(m:l.g=aY+j∧l.act=.start)(F:qC j=0)(H:∀i,i≠j→qC i=g6 i)(I:¬rel' j)(J:∀i,i≠j→rel' i→rel i):
 fF Sh Wg Own bL aY (j+1) B 0 qC rel' (T++#[f,l]):=by
 have V:=e.aY;have x:∀c∈#[f,l],c.act.touch?=none∧(∀B,c.act.low B)∧∀a,c.act≠.mark (.release a):=by
  intro c aP;simp only[List.mem_toArray,jN,HW,HX]at aP;rcases aP with rfl|rfl
  ·rw[o.2];exact⟨rfl,fun _=>trivial,fun _=>by simp⟩
  ·rw[m.2];exact⟨rfl,fun _=>trivial,fun _=>by simp⟩
 have old:∀{i:Nat} {a:Touch},touchAt (T++#[f,l]) i=some a→touchAt T i=some a∧i<T.size:=by
  intro i a p;rcases Ce p with z|⟨_,c,_,K,C⟩
  ·exact z
  ·rw[(x c K).1]at C;cases C
 have P:T++#[f,l]=(T++#[f])++#[l]:=by apply jO;simp
 have s:=(h.bD.app e (u:=#[f]) (g:=0) (.inl rfl) (fun c aP=>by simp at aP;rw[aP];exact o.1) fun c aP b v=>(by simp at aP;subst aP;rw[o.2]at v;cases v)).app e (u:=#[l]) (g:=aY+j) (.inr (.inr fun c aP=>by simp at aP;rw[aP,m.2];rfl)) (fun c aP=>by simp at aP;rw[aP];exact m.1) fun c aP b v=>(by simp at aP;subst aP;rw[m.2]at v;cases v);rw[←P]at s;have D:∀g,Deaf (T++#[f,l]) g=Deaf T g:=fun g=>by rw[P,Deaf_push,Deaf_push];simp[deafStep,o.2,m.2]
 refine⟨⟨s.clean,fun i a p w=>?_,fun k y i a p w d=>?_,s.zM,fun i g L M h1 N=>s.over i g L M (fun k y=>h1 k (by omega)) N⟩,by rw[D];exact h.deaf0,fun k y=>?_,h.norel.app fun c aP=>(x c aP).2.2 _,
  fun c aP=>(y6.1 aP).elim (h.seen c) fun z=>(x c z).2.1 _,fun k y E=>?_⟩
 ·rcases s.known0 i a p w with z|z|z|⟨k,z,t⟩
  ·exact .inl z
  ·exact .inr (.inl z)
  ·exact .inr (.inr (.inl z))
  ·exact .inr (.inr (.inr ⟨k,by omega,t⟩))
 ·by_cases n:k=j
  ·subst n;obtain⟨O,W⟩:=old p;have R:Knows T 0 i:=by
    rcases h.bD.known0 i a O w with z|⟨z,_⟩|⟨z,_⟩|⟨X,z,_,_,t|⟨t,S⟩⟩
    ·exact z
    ·exact absurd z (d.elim (e.ownSh _ _) fun q=>e.OT _ q.1)
    ·exact absurd z (d.elim (e.IL _ _) fun q=>e.E0 _ q.1)
    ·rcases d with d|⟨d,_⟩
     ·have:=e.own _ _ _ t d;omega
     ·exact absurd d (e.Cd _ _ t)
    ·rcases d with d|⟨_,d⟩
     ·exact absurd t (e.Cd _ _ d)
     ·rw[S]at d;cases d
   exact fork_knows o m h.deaf0 A R
  ·exact s.E2 k (by omega) i a p w d
 ·rw[D];by_cases n:k=j
  ·subst n;rw[F];exact A
  ·rw[H k n];exact h.deafW k (by omega)
 ·by_cases n:k=j
  ·subst n;exact absurd E I
  ·obtain⟨r,U⟩:=h.rel k (by omega) (J k n E);rw[P];refine⟨r,(U.appOther (g:=0) (fun c aP=>by simp at aP;rw[aP];exact o.1) (by omega)).appOther (g:=aY+j) (fun c aP=>by simp at aP;rw[aP];exact m.1) (by omega)⟩
def fF.acquire(J:tw Sh Wg Own bL aY)(h:fF Sh Wg Own bL aY j B 0 g6 rel T)(K:Wg<B)(L:∀k,k<j→rel k):
 Past (fun l=>Sh l∨pQ Wg l) B (T++MemOp.ofEvents 0 fn pos #[Go.ConcR.mk (.acquire (stA Wg))]):=by
 have M:MemOp.ofEvents 0 fn pos #[Go.ConcR.mk (.acquire (stA Wg))]=#[{g:=0,fn,pos,act:=.mark (.acquire (stA Wg))}]:=by rw[ofEvents_eq];simp[aob]
 rw[M];generalize s:(#[({g:=0,fn,pos,act:=.mark (.acquire (stA Wg))}:MemOp)]:Trace)=u;have o:(T++u)[T.size]? =some {g:=0,fn,pos,act:=.mark (.acquire (stA Wg))}:=by subst s;simp
 have p:∀c∈u,c.g=0∧c.act=.mark (.acquire (stA Wg)):=by subst s;intro c aP;simp at aP;subst aP;exact⟨rfl,rfl⟩
 have t:∀c∈u,c.act.touch?=none:=fun c aP=>by rw[(p c aP).2];rfl
 have N:(T++u).deaf 0 T.size=0:=by rw[deaf_old (aX _)];exact h.deaf0
 have known:∀k,k<j→∀i,T.g? i=some (aY+k)→T.counts i→HappensBefore (T++u) i T.size:=fun k d i f m=>by
  obtain⟨r,v⟩:=h.rel k d (L k d);have w:=v.appOther (u:=u) (g:=0) (fun c aP=>(p c aP).1) (by have:=J.aY;omega);have O:r<T.size:=lt_of_act? v.act;have z:HappensBefore (T++u) r T.size:=.single (.inr ⟨.marked O (.inr w.act) (by rw[act?_of o]) (fun k _ d=>by rw[act?_old d];exact h.norel k),w.heard,⟨0,by simp[Trace.g?,o],N⟩⟩);have X:i≤r:=Od fun x=>v.after i x f m;rcases cv i r with x|Y
  ·exact .trans (.single (.inl ⟨x,aY+k,by rw[g?_old (lt_of_g? f)];exact f,w.g⟩)) z
  ·obtain rfl:i=r:=by omega
   exact z
 refine⟨fun R=>noRace_append (h.bD.clean R) (fun c aP=>(p c aP).1) fun i a _ c aP b q _=>(by rw[t c aP]at q;cases q),fun i a S A=>?_,fun i g f U m=>?_,?_,fun c aP=>(y6.1 aP).elim (h.seen c) fun e=>by rw[(p c e).2];exact K⟩
 ·rcases Ce S with⟨C,Z⟩|⟨_,c,_,y,D⟩
  ·rcases h.bD.known0 i a C A with e|⟨e,n⟩|⟨e,n⟩|⟨k,d,e,n,_⟩
   ·exact .inl (e.app _)
   ·exact .inr ⟨.inl e,n⟩
   ·exact .inr ⟨.inr e,n⟩
   ·exact .inl ⟨T.size,_,o,rfl,.inr (known k d i e ⟨a,C,A,.inl (by rw[n];simp)⟩)⟩
  ·rw[t c y]at D;cases D
 ·obtain⟨e,V,_⟩:=id m;obtain⟨c,aP,E⟩:=touch_of V;rcases getElem?_append_cases aP with⟨hi,_⟩|⟨_,y⟩
  ·have F:T.g? i=some g:=by rw[←g?_old (u:=u) hi];exact f
   by_cases H:∃k,k<j∧g=aY+k
   ·obtain⟨k,d,rfl⟩:=H;exact⟨T.size,by simp[Trace.g?,o],known k d i F ((counts_old hi).1 m)⟩
   ·obtain⟨W,I,q⟩:=h.bD.over i g F U (fun k d P=>H ⟨k,d,P⟩) ((counts_old hi).1 m);exact⟨W,by rw[g?_old (lt_of_g? I)];exact I,hb_app u q⟩
  ·rw[t c y]at E;cases E
 ·rw[←s,Deaf_push,h.deaf0];rfl
end
end
section
open Conc
open Go.ConcX (stA smA OfWg)
open Go.ConcN (RelBy fork_knows)
variable{i:Nat}{fn:FuncId}{Q:String}{P:Array Event}
structure LT(Sh:Loc→Prop)(Wg B d:Nat)(T:Trace):Prop where
 clean:∀said,¬Race said T
 known:∀i a,touchAt T i=some a→a.loc.isMemory=true→Knows T 0 i∨(Sh a.loc∧a.kind=.atomic)
 over:T.HandedOver
 deaf:Deaf T 0=d
 seen:∀op∈T,op.act.low B
 zM:∀i a,touchAt T i=some a→OfWg Wg a.loc→a.kind≠.plain∧(a.kind=.said→T.g? i=some 0)
 norel:NoRelease (stA Wg) T
def zN(Sh:Loc→Prop)(Wg B:Nat)(b:Event):Prop:=
 (∀a,(MemAct.ofEvent b).touch?=some a→(Sh a.loc→a.kind≠.plain)∧(OfWg Wg a.loc→a.kind≠.plain))∧MemAct.ofEvent b≠.mark (.release (stA Wg))∧(MemAct.ofEvent b).low B
section
variable{Sh:Loc→Prop}{Wg B d:Nat}{T u:Trace}{R:Nat→Prop}{c S U:Nat}{V:Prop}
def E4{a:Touch}(h:touchAt (T++u) i=some a):(touchAt T i=some a∧i<T.size)∨(T.size≤i∧∃b,(T++u)[i]? =some b∧b∈u∧b.act.touch?=some a):=by
 obtain⟨j,f,g⟩:=touch_of h;rcases getElem?_append_cases f with⟨e,k⟩|⟨e,l⟩
 ·exact .inl ⟨by rw[touchAt_of k];exact g,e⟩
 ·exact .inr ⟨e,j,f,l,g⟩
def Xv{a:MemOp}(h:(T++u)[i]? =some a):(T++u).g? i=some a.g:=by simp[Trace.g?,h]
def OX(h:i<T.size):(T++u).g? i=T.g? i:=g?_old h
def Xw{b:Event}(h:b.mute=true)(a:Addr):MemAct.ofEvent b≠.mark (.release a):=by
 obtain⟨e,wr,f⟩:=b;cases e with
 |mark m=>cases m<;>simp_all[Event.mute,MemAct.ofEvent]
 |_=>simp_all[Event.mute]
def LT.own(h:LT Sh Wg B d T){o:Nat}(cQ:B≤o)(n:∀f∈P,zN Sh Wg o f):LT Sh Wg o (deafBehind d P) (T++MemOp.ofEvents 0 fn Q P):=by
 have m:∀e∈MemOp.ofEvents 0 fn Q P,e.g=0∧∃f∈P,e.act=.ofEvent f:=fun e aP=>by obtain⟨f,k,rfl⟩:=Ek aP;exact⟨rfl,f,k,rfl⟩
 refine⟨fun w=>noRace_append (h.clean w) (fun e aP=>(m e aP).1) fun i a l e aP b x p=>?_,fun i a l y=>?_,handedOver_app h.over fun e aP=>.inl (m e aP).1,by rw[Deaf_own,h.deaf],
  fun e aP=>(y6.1 aP).elim (fun j=>MemAct.low_mono cQ (h.seen e j)) fun j=>by obtain⟨_,f,k,l⟩:=m e j;rw[l];exact(n f k).2.2,fun i a l t=>?_,
  h.norel.app fun e aP=>by obtain⟨_,f,k,l⟩:=m e aP;rw[l];exact(n f k).2.1⟩
 ·rcases h.known i a l p.2.1 with z|⟨A,v⟩
  ·exact z
  ·obtain⟨_,f,k,q⟩:=m e aP;have C:=((n f k).1 b (q▸x)).1 (p.1▸A);rcases p.2.2.2 with j|j|⟨_,j,_⟩
   ·rw[v]at j;cases j
   ·exact absurd j C
   ·rw[v]at j;cases j
 ·rcases E4 l with⟨r,_⟩|⟨_,e,aP,s,_⟩
  ·exact(h.known i a r y).imp (·.app _) id
  ·have:=knows_own aP;rw[(m e s).1]at this;exact .inl this
 ·rcases E4 l with⟨r,D⟩|⟨_,e,aP,s,E⟩
  ·rw[OX D];exact h.zM i a r t
  ·obtain⟨F,f,k,q⟩:=m e s;refine⟨((n f k).1 a (q▸E)).2 t,fun _=>?_⟩;rw[Xv aP,F]
def LT.mute(h:LT Sh Wg B d T){g:Nat}(r:g≠0)(l:∀j∈P,j.mute=true):LT Sh Wg B d (T++MemOp.ofEvents g fn Q P):=by
 have f:∀e∈MemOp.ofEvents g fn Q P,e.g=g∧e.act.touch?=none∧e.act.low B∧e.act≠.mark (.release (stA Wg)):=fun e aP=>by
  obtain⟨j,m,rfl⟩:=Ek aP;exact⟨rfl,touch_mute (l j m),low_mute (l j m) B,Xw (l j m) _⟩
 refine⟨fun s=>noRace_append (h.clean s) (fun e aP=>(f e aP).1) fun i a _ e aP b q _=>(by rw[(f e aP).2.1]at q;cases q),fun i a n t=>?_,handedOver_app h.over fun e aP=>.inr (f e aP).2.1,
  (Deaf_other T r _ fun e aP=>(f e aP).1).trans h.deaf,fun e aP=>(y6.1 aP).elim (h.seen e) fun v=>(f e v).2.2.1,fun i a n w=>?_,h.norel.app fun e aP=>(f e aP).2.2.2⟩
 ·rcases E4 n with⟨o,_⟩|⟨_,e,_,p,k⟩
  ·exact(h.known i a o t).imp (·.app _) id
  ·rw[(f e p).2.1]at k;cases k
 ·rcases E4 n with⟨o,x⟩|⟨_,e,_,p,k⟩
  ·rw[OX x];exact h.zM i a o w
  ·rw[(f e p).2.1]at k;cases k
def LT.IR(h:Past Sh B T)(p:B≤Wg):LT Sh Wg B 0 T:=by
 have low:∀i a,touchAt T i=some a→∀ad,a.loc=.cell ad→ad.block<B:=fun i a f ad e=>by
  obtain⟨j,k,b⟩:=touch_of f;have:=h.seen j (mem_of_getElem? k);cases g:j.act with
  |access ev=>
   rw[g]at b this;simp only[MemAct.touch?,aB]at b;subst b;simp only at e;simp only[MemAct.low]at this;rw[e]at this;exact this
  |mark m=>rw[g]at b this;cases m<;>simp only[MemAct.touch?,aB,reduceCtorEq]at b<;>subst b<;>cases e<;>exact this
  |_=>rw[g]at b;cases b
 refine⟨h.clean,h.known,h.over,h.hears,h.seen,fun i a f ⟨ad,e,q⟩=>absurd (low i a f ad e) (by omega),fun i hi=>?_⟩;obtain⟨l,n,o⟩:=bU.1 hi;have:=h.seen l (mem_of_getElem? n);rw[o]at this;simp only[MemAct.low,stA]at this;omega
end
end
section
open Conc
open Go.ConcX (stA smA OfWg WgAt KK Payload Shy rd wr mk AtR0 AtK1 AtD1 AtD2 AtD3 AtD4 RCa RCd KCa DC0)
open Go.ConcN (sumTo upd sumTo_upd upd_ne upd_same)
variable{k:Nat}{a Q:Goroutine}{f:Goroutine→Goroutine}{i:Nat}
structure mM(P:Program)(X:Nat→Prop)(T:Trace)(gs:Array Goroutine)(q:Nat→Nat):Prop where
 old:∀i g,0<i→¬X i→gs[i]? =some g→QuitsD P (q i) (Deaf T i) g
 above:∀j,gs.size≤j→Deaf T j=0
section
variable{P:Program}{X:Nat→Prop}{T:Trace}{gs:Array Goroutine}{q:Nat→Nat}
def mM.of(h:Leavers P T gs q):mM P (fun _=>False) T gs q:=⟨fun i g b _ c=>h.old i g b c,h.above⟩
def mM.to(h:mM P (fun _=>False) T gs q):Leavers P T gs q:=⟨fun i g b c=>h.old i g b id c,h.above⟩
def ofEvents_g{g:Nat}{fn:FuncId}{c:String}{d:Array Event}:∀b∈MemOp.ofEvents g fn c d,b.g=g:=fun b aP=>by obtain⟨e,_,rfl⟩:=Ek aP;rfl
def zO(h:gs[k]? =some a):((gs.map f).setIfInBounds k Q)[k]? =some Q:=by
 have:=(dW.1 h).1;simp[this]
def tA{j:Nat}(b:k≠j):((gs.map f).setIfInBounds k Q)[j]? =(gs[j]?).map f:=by
 rw[El b,Array.getElem?_map]
def mM.own(h:mM P X T gs q)(n:k=0∨X k)(w:k<gs.size){b:Goroutine}{w':World}(fn:FuncId)(o:String)(p:Array Event):
 mM P X (T++MemOp.ofEvents k fn o p) ((gs.map (woken P a b w')).setIfInBounds k b) q:=by
 refine⟨fun i g r c d=>?_,fun j s=>?_⟩
 ·have e:k≠i:=fun l=>by subst l;exact n.elim (fun l=>by omega) c
  rw[tA e]at d;obtain⟨t,u,rfl⟩:=bU.1 d;have m:=h.old i t r c u;rw[woken_quitsD m,Deaf_other T (g':=k) e _ ofEvents_g];exact m
 ·have v:gs.size≤j:=by simpa using s
  rw[Deaf_other T (g':=k) (by omega) _ ofEvents_g];exact h.above j v
def mM.slip(h:mM P X T gs q)(s:0<i)(t:¬X i){g:Goroutine}(m:gs[i]? =some g)(c:g.status=.running):
 ∃g' b k,(∀u∈b,Event.mute u=true)∧(∀w,stepG P false g w=.go g' w b)∧q i=k+1∧
  ∀w fn o,mM P X (T++MemOp.ofEvents i fn o b) ((gs.map (woken P g g' w)).setIfInBounds i g') (upd q i k):=by
 have d:=h.old i g s t m;have E:=(dW.1 m).1;cases p:q i with
 |zero=>rw[p]at d;rw[d.1]at c;cases c
 |succ k=>
  rw[p]at d;rcases d with⟨v,_⟩|⟨_,g',b,x,y,A⟩
  ·rw[v]at c;cases c
  refine⟨g',b,k,x,y,rfl,fun w fn o=>⟨fun j F n B e=>?_,fun j n=>?_⟩⟩
  ·by_cases l:i=j
   ·subst l;rw[zO m]at e;obtain rfl:=dV e;rw[upd_same,Deaf_own];exact A
   ·rw[tA l]at e;obtain⟨z,C,rfl⟩:=bU.1 e;have r:=h.old j z n B C;rw[woken_quitsD r,upd_ne q k (fB l),Deaf_other T l _ ofEvents_g];exact r
  ·have D:gs.size≤j:=by simpa using n
   rw[Deaf_other T (g':=i) (by omega) _ ofEvents_g];exact h.above j D
def IS{n:Nat}(hi:i<n)(b:q i=k+1):sumTo n (upd q i k)<sumTo n q:=by
 have:=sumTo_upd q k id hi;simp only[id,b]at this;have c:(sumTo n fun a=>upd q i k a)=sumTo n (upd q i k):=rfl;have d:(sumTo n fun a=>q a)=sumTo n q:=rfl;omega
end
end
section
open Conc
open Go.ConcR (KK WgAt stA smA rd wr mk DC0 Payload Bk)
open Go.ConcN (AtK1 AtD1 AtD2 AtD3 AtD4 RW PayAt Has WgLive CTag WD)
variable{d:Nat}{t:b8}{g:Goroutine}{b:Nat}{q:Nat→Prop}{T:Nat}{tag:CTag}{S n Q:Nat}{es:Array Event}
structure dj where
 ty:TypeId
 Wg:Nat
 Sh:Loc→Prop
 aY:Nat
 N:Nat
 bR:Nat
 ety:TypeId
 n:Nat
 mN:Nat→Nat→Prop
 mL:Nat→Prop
 cY:Nat→Nat→Prop
 iL:Nat→Prop
 kx:Nat→Nat
 kQ:Nat→World→Prop
 cF:World
def dj.Own(p:dj)(k:Nat)(l:Loc):Prop:=∃a,l=.cell a∧(p.mN k a.block∨(a.block=p.bR∧p.cY k a.off))
def dj.bL(p:dj)(l:Loc):Prop:=∃a,l=.cell a∧(p.mL a.block∨(a.block=p.bR∧p.iL a.off))
def kR(b:Nat)(q:Nat→Prop)(w w':World):Prop:=
 w'.heap[b]? =w.heap[b]? ∨∃vs a t bu,w.heap[b]? =some (.cells vs t bu)∧w'.heap[b]? =some (.cells a t bu)∧a.size=vs.size∧∀c,q c→a[c]? =vs[c]?
def kR.refl(b:Nat)(q:Nat→Prop)(w:World):kR b q w w:=.inl rfl
def kR.trans{w ck R:World}(h:kR b q w ck)(k:kR b q ck R):kR b q w R:=by
 rcases h with h|⟨vs,r,t,bu,h1,h2,h3,h4⟩
 ·rcases k with k|⟨us,c,i,l,a,e,f,dn⟩
  ·exact .inl (k.trans h)
  ·exact .inr ⟨us,c,i,l,h▸a,e,f,dn⟩
 ·rcases k with k|⟨us,c,i,l,a,e,f,dn⟩
  ·exact .inr ⟨vs,r,t,bu,h1,k.trans h2,h3,h4⟩
  ·rw[h2]at a;cases a;exact .inr ⟨vs,c,t,bu,h1,e,f.trans h3,fun m o=>(dn m o).trans (h4 m o)⟩
def kR.xz{c:Nat→Prop}{w ck:World}(h:kR b q w ck)(k:∀a,c a→q a):kR b c w ck:=
 h.imp id fun⟨vs,e,t,bu,h1,h2,h3,h4⟩=>⟨vs,e,t,bu,h1,h2,h3,fun a f=>h4 a (k a f)⟩
def kR.cell{w ck:World}(h:kR b q w ck){a:Nat}(c:q a):ck.cell? ⟨b,a,none⟩=w.cell? ⟨b,a,none⟩:=by
 unfold World.cell?;rcases h with h|⟨vs,e,t,bu,h1,h2,h3,h4⟩
 ·simp only[h]
 ·simp only[h1,h2,h4 a c]
def kR.pay [Payload]{w ck:World}(h:kR b q w ck):PayAt b n w→PayAt b n ck:=by
 rintro⟨cs,a,c⟩;rcases h with h|⟨vs,e,t,bu,h1,h2,h3,h4⟩
 ·exact⟨cs,h.trans a,c⟩
 ·rw[h1]at a;cases a;exact⟨e,h2,h3.trans c⟩
section
variable(P:Program)(p:dj)
def dj.live(w:World):Prop:=WgLive p.ty p.Wg w
structure dw(k:Nat)(w ck:World):Prop where
 os:ck.os=w.os
 tape:ck.tape=w.tape
 output:ck.output=w.output
 size:w.heap.size≤ck.heap.size
 own:∀b,b<w.heap.size→p.mN k b∨p.mL b→ck.heap[b]? =w.heap[b]?
 bR:kR p.bR (fun o=>p.cY k o∨p.iL o) w ck
 live:p.live w→p.live ck
structure jW(k:Nat)(w w':World)(es:Array Event):Prop where
 os:w'.os=w.os
 tape:w'.tape=w.tape
 output:w'.output=w.output
 size:w.heap.size≤w'.heap.size
 jT:∀b,b<w.heap.size→b≠p.bR→¬p.mN k b→w'.heap[b]? =w.heap[b]?
 bR:kR p.bR (fun o=>¬p.cY k o) w w'
 evs:∀e∈es,IP p.Wg p.Own p.bL k w'.heap.size e∧e.loc≠.mark .disable∧e.loc≠.mark .enable
structure bS(w ck:World):Prop where
 os:ck.os=w.os
 tape:ck.tape=w.tape
 output:ck.output=w.output
 size:w.heap.size≤ck.heap.size
 eF:∀b,b<w.heap.size→p.mL b→ck.heap[b]? =w.heap[b]?
 live:p.live w→p.live ck
def zP(w w':World)(es:Array Event):Prop:=(∃d,w'=w.at d)∧∀a∈es,Ev0 p.Wg p.bL w.heap.size a∧a.loc≠.mark .disable∧a.loc≠.mark .enable
@[reducible] def dj.pl:Payload:=⟨p.ety⟩
abbrev dj.rY(k:Nat):World→World→Prop:=letI:=p.pl;RW p.ty p.Wg p.bR p.n 0 (p.kx k)
def E5(k:Nat)(g:Goroutine)(w:World):Prop:=letI:=p.pl;g.status=.running∧p.kQ k w∧∃g',stepG P false g w=.go g' w #[mk (.releaseMerge (stA p.Wg))]∧∃m,Goes P false (p.rY k) DC0 (AtK1 P p.ty p.Wg p.bR p.n 0 (p.kx k+1)) m g' w
def dj.xA(k:Nat)(w w':World):Prop:=∀c,w.heap.size≤c→c<w'.heap.size→p.mN k c
abbrev Works(k:Nat):Goroutine→World→Prop:=gA P false (dw p k) (p.xA k) (jW p k) (E5 P p k)
inductive jA(k:Nat):Nat→b8→Nat→Nat→Goroutine→World→Prop
 |r0 {t:b8} {g:Goroutine} {w:World}:oO P false (dw p k) (p.xA k) (jW p k) (E5 P p k) t g w→jA k 7 t 0 0 g w|k1 {t:b8} {g:Goroutine} {w:World}:eW P false (p.rY k) DC0 (letI:=p.pl;AtK1 P p.ty p.Wg p.bR p.n 0 (p.kx k+1)) t g w→jA k 6 t 0 0 g w|d1 {t:b8} {g:Goroutine} {w:World}:eW P false (p.rY k) DC0 (letI:=p.pl;AtD1 P p.ty p.Wg p.bR p.n 0 (p.kx k+1)) t g w→jA k 5 t 0 1 g w|d2 {t:b8} {g:Goroutine} {w:World}:eW P false (p.rY k) DC0 (letI:=p.pl;AtD2 P p.ty p.Wg p.bR p.n 0 (p.kx k+1)) t g w→jA k 4 t 0 1 g w|d3 {t:b8} {g:Goroutine} {w:World}:eW P false (p.rY k) DC0 (letI:=p.pl;AtD3 P p.ty p.Wg p.bR p.n 0 (p.kx k+1)) t g w→jA k 3 t 0 1 g w|d4 {t:b8} {g:Goroutine} {w:World}:eW P false (p.rY k) DC0 (AtD4 P p.ty p.Wg) t g w→jA k 2 t 0 1 g w|quit {q d:Nat} {g:Goroutine} {w:World}:QuitsD P q d g→jA k 1 .leaf q d g w
abbrev fG(a:lu):Goroutine→World→Prop:=Way P true (bS p) (zP p) a
abbrev nv(a:lu)(t:b8):Goroutine→World→Prop:=eW P true (bS p) (zP p) a t
section
variable(Next Anch:Goroutine→World→Prop)
def zQ(g:Goroutine)(w:World):Prop:=g.status=.running∧∃g',stepG P true g w=.go g' w #[mk (.acquire (stA p.Wg))]∧((∀k,k<p.N→p.kQ k w)→Next g' w)
def vj(g:Goroutine)(w:World):Prop:=g.status=.running∧∃g',stepG P true g w=.go g' w #[mk .enable]∧fG P p (zQ P p Next) g' w
def zR(g:Goroutine)(w:World):Prop:=g.status=.running∧(WgAt p.ty p.Wg w 0 0→∃g',stepG P true g w=.go g' w #[rd (stA p.Wg)]∧fG P p (vj P p Next) g' w)
def xB(g:Goroutine)(w:World):Prop:=
 g.status=.running∧g.offers=none∧((∃ay,WgAt p.ty p.Wg w ay 0)→stepG P true g w=.go {g with status:=.blocked} w #[])∧
  (WgAt p.ty p.Wg w 0 1→∃g',stepG P true g w=.go g' (w.setCell (smA p.Wg) (.int .u32 0)) (semEvents (smA p.Wg))∧fG P p (zR P p Next) g' (w.setCell (smA p.Wg) (.int .u32 0)))
def zS(vs:Nat)(g:Goroutine)(w:World):Prop:=
 g.status=.running∧∀v:Nat,v<2147483648→WgAt p.ty p.Wg w (v*KK) 0→
  (v=vs→∃g',stepG P true g w=.go g' (w.setCell (stA p.Wg) (.int .u64 (v*KK+1))) #[rd (stA p.Wg),wr (stA p.Wg)]∧fG P p (xB P p Next) g' (w.setCell (stA p.Wg) (.int .u64 (v*KK+1))))∧
  (v≠vs→∃g',stepG P true g w=.go g' w #[rd (stA p.Wg)]∧fG P p Anch g' w)
def qD(g:Goroutine)(w:World):Prop:=
 g.status=.running∧∀v:Nat,v<2147483648→WgAt p.ty p.Wg w (v*KK) 0→∃g',stepG P true g w=.go g' w #[rd (stA p.Wg)]∧
  (v=0→fG P p (vj P p Next) g' w)∧(v≠0→fG P p (zS P p Next Anch v) g' w)
def xC(g:Goroutine)(w:World):Prop:=g.status=.running∧∃g',stepG P true g w=.go g' w #[mk .disable]∧fG P p Anch g' w
end
section
variable(U:Goroutine→World→Prop)(j:Nat)
def IT(g:Goroutine)(w:World):Prop:=g.status=.running∧∃g' child,stepG P true g w=.spawn g' child w #[]∧child.status=.running∧(dw p j p.cF w→Works P p j child w)∧U g' w
def OY(g:Goroutine)(w:World):Prop:=g.status=.running∧∃g',stepG P true g w=.go g' w #[mk .enable]∧fG P p (IT P p U j) g' w
def OZ(g:Goroutine)(w:World):Prop:=g.status=.running∧∀v:Nat,v<2147483647→WgAt p.ty p.Wg w (v*KK) 0→
 ∃g',stepG P true g w=.go g' (w.setCell (stA p.Wg) (.int .u64 ((v+1)*KK))) #[rd (stA p.Wg),wr (stA p.Wg)]∧fG P p (OY P p U j) g' (w.setCell (stA p.Wg) (.int .u64 ((v+1)*KK)))
def E6(g:Goroutine)(w:World):Prop:=g.status=.running∧∃g',stepG P true g w=.go g' w #[mk .disable]∧fG P p (OZ P p U j) g' w
end
def Spawns(Fin:Goroutine→World→Prop):Nat→Goroutine→World→Prop|0,g,w=>Fin g w|r+1,g,w=>fG P p (E6 P p (Spawns Fin r) (p.N-(r+1))) g w
variable(Next Anch:Goroutine→World→Prop)
abbrev oP:Nat→Goroutine→World→Prop:=Spawns P p (fG P p (xC P p Anch))
inductive fh:CTag→Nat→b8→Nat→Nat→Goroutine→World→Prop
 |skd {r:Nat} {t:b8} {g:Goroutine} {w:World}:r<p.N→nv P p (E6 P p (oP P p Anch r) (p.N-(r+1))) t g w→fh (.sp r 5) (p.N-(r+1)) t 0 1 g w|sa1 {r:Nat} {t:b8} {g:Goroutine} {w:World}:r<p.N→nv P p (OZ P p (oP P p Anch r) (p.N-(r+1))) t g w→fh (.sp r 4) (p.N-(r+1)) t 1 1 g w|ske {r:Nat} {t:b8} {g:Goroutine} {w:World}:r<p.N→nv P p (OY P p (oP P p Anch r) (p.N-(r+1))) t g w→fh (.sp r 3) (p.N-(r+1)) t 1 1 g w|sgo {r:Nat} {t:b8} {g:Goroutine} {w:World}:r<p.N→nv P p (IT P p (oP P p Anch r) (p.N-(r+1))) t g w→fh (.sp r 2) (p.N-(r+1)) t 0 1 g w|kd {t:b8} {g:Goroutine} {w:World}:nv P p (xC P p Anch) t g w→fh .kd p.N t 0 1 g w|anch {t:b8} {g:Goroutine} {w:World}:nv P p Anch t g w→fh .anch p.N t 1 1 g w|w1 {t:b8} {g:Goroutine} {w:World}:nv P p (qD P p Next Anch) t g w→fh .w1 p.N t 1 1 g w|w2 {vs:Nat} {t:b8} {g:Goroutine} {w:World}:nv P p (zS P p Next Anch vs) t g w→fh (.w2 vs) p.N t 1 1 g w|w3 {t:b8} {g:Goroutine} {w:World}:nv P p (xB P p Next) t g w→fh .w3 p.N t 1 1 g w|blk {g:Goroutine} {w:World}:(∀ck,bS p w ck→xB P p Next g ck)→fh .blk p.N .leaf 1 0 {g with status:=.blocked} w
 |w4 {t:b8} {g:Goroutine} {w:World}:nv P p (zR P p Next) t g w→fh .w4 p.N t 1 1 g w|ke {t:b8} {g:Goroutine} {w:World}:nv P p (vj P p Next) t g w→fh .ke p.N t 1 1 g w|acq {t:b8} {g:Goroutine} {w:World}:nv P p (zQ P p Next) t g w→fh .acq p.N t 0 1 g w
end
section
variable{P:Program}{p:dj}{Next Anch:Goroutine→World→Prop}{k:Nat}{w ck R:World}
structure eL(p:dj):Prop where
 mn:∀k Q b,p.mN k b→p.mN Q b→k=Q
 new:∀k b,p.mN k b→p.cF.heap.size≤b
 Xx:∀k a,p.mN k a→∀x:Addr,x.block=a→¬p.Sh (.cell x)
 eF:∀b,p.mL b→b<p.cF.heap.size∧b≠p.Wg∧b≠p.bR∧∀x:Addr,x.block=b→¬p.Sh (.cell x)
 wg:p.Wg<p.cF.heap.size
 bR:p.bR<p.cF.heap.size∧p.bR≠p.Wg∧∀x:Addr,x.block=p.bR→¬p.Sh (.cell x)
 rZ:∀k Q o,p.cY k o→p.cY Q o→k=Q
 xD:∀k o,p.cY k o→¬p.iL o
 kx:∀k,p.cY k (p.kx k)∨p.iL (p.kx k)
 aY:0<p.aY
 E7:p.N<2147483648
 pay:∀k w w',dw p k w w'→p.kQ k w→p.kQ k w'
def eL.vk(c:eL p):tw p.Sh p.Wg p.Own p.bL p.aY:=by
 refine⟨?_,?_,?_,?_,?_,?_,c.aY⟩
 ·rintro k Q l ⟨a,rfl,h⟩ ⟨b,f,e⟩;cases f;rcases h with h|⟨h,i⟩<;>rcases e with e|⟨e,m⟩
  ·exact c.mn _ _ _ h e
  ·have:=c.new _ _ h;have:=c.bR.1;omega
  ·have:=c.new _ _ e;have:=c.bR.1;omega
  ·exact c.rZ _ _ _ i m
 ·rintro k l ⟨a,rfl,h⟩ ⟨b,f,e⟩;cases f;rcases h with h|⟨h,i⟩<;>rcases e with e|⟨e,m⟩
  ·have:=c.new _ _ h;have:=(c.eF _ e).1;omega
  ·have:=c.new _ _ h;have:=c.bR.1;omega
  ·exact(c.eF _ e).2.2.1 h
  ·exact c.xD _ _ i m
 ·rintro k l ⟨a,rfl,h|⟨h,_⟩⟩
  ·exact c.Xx _ _ h _ rfl
  ·exact c.bR.2.2 _ h
 ·rintro k l ⟨a,rfl,h⟩ ⟨b,f,e⟩;cases f;rcases h with h|⟨h,_⟩
  ·have:=c.new _ _ h;have:=c.wg;omega
  ·exact c.bR.2.1 (h▸e)
 ·rintro l ⟨a,rfl,h|⟨h,_⟩⟩
  ·exact(c.eF _ h).2.2.2 _ rfl
  ·exact c.bR.2.2 _ h
 ·rintro l ⟨a,rfl,h⟩ ⟨b,f,e⟩;cases f;rcases h with h|⟨h,_⟩
  ·exact(c.eF _ h).2.1 e
  ·exact c.bR.2.1 (h▸e)
def dw.refl(k:Nat)(w:World):dw p k w w:=⟨rfl,rfl,rfl,aX _,fun _ _ _=>rfl,.refl _ _ _,id⟩
def dw.trans(h:dw p k w ck)(a:dw p k ck R):dw p k w R:=⟨a.os.trans h.os,a.tape.trans h.tape,a.output.trans h.output,gb h.size a.size,fun b c e=>(a.own b (dL c h.size) e).trans (h.own b c e),h.bR.trans a.bR,a.live∘h.live⟩
def dw.aH:∀a b c,dw p k a b→dw p k b c→dw p k a c:=fun _ _ _ h e=>h.trans e
def dw.at(k:Nat)(w:World)(d:Nat):dw p k w (w.at d):=⟨rfl,rfl,rfl,aX _,fun _ _ _=>rfl,.refl _ _ _,id⟩
def bS.refl(w:World):bS p w w:=⟨rfl,rfl,rfl,aX _,fun _ _ _=>rfl,id⟩
def bS.trans(h:bS p w ck)(a:bS p ck R):bS p w R:=⟨a.os.trans h.os,a.tape.trans h.tape,a.output.trans h.output,gb h.size a.size,fun b c e=>(a.eF b (dL c h.size) e).trans (h.eF b c e),a.live∘h.live⟩
def bS.aH:∀a b c,bS p a b→bS p b c→bS p a c:=fun _ _ _ h e=>h.trans e
def bS.at(w:World)(d:Nat):bS p w (w.at d):=⟨rfl,rfl,rfl,aX _,fun _ _ _=>rfl,id⟩
def qE [Payload]{C Low i:Nat}{e:TypeId}{f:Nat}:∀a b c,RW e f C n Low i a b→RW e f C n Low i b c→RW e f C n Low i a c:=fun _ _ _ h l=>h.trans l
def dw.rw(a:eL p)(h:dw p k w ck):p.rY k w ck:=letI:=p.pl;⟨fun b c=>absurd c (ox _),h.live,h.bR.pay,h.bR.cell (a.kx k)⟩
def jW.nr(a:eL p)(h:jW p Q w ck es)(f:k≠Q):dw p k w ck:=by
 have i:∀b,p.mN k b∨p.mL b→b≠p.bR∧¬p.mN Q b:=by
  rintro b (c|c)
  ·exact⟨fun l=>by have:=a.new _ _ c;have:=a.bR.1;omega,fun e=>f (a.mn _ _ _ c e)⟩
  ·exact⟨(a.eF _ c).2.2.1,fun e=>by have:=a.new _ _ e;have:=(a.eF _ c).1;omega⟩
 refine⟨h.os,h.tape,h.output,h.size,fun b c m=>h.jT b c (i b m).1 (i b m).2,h.bR.xz fun u s o=>?_,fun⟨ay,sm,r⟩=>⟨ay,sm,?_⟩⟩
 ·exact s.elim (fun z=>f (a.rZ _ _ _ z o)) (a.xD _ _ o)
 ·exact r.of_block (h.jT _ (dW.1 r).1 (fun l=>a.bR.2.1 l.symm) fun z=>by have:=a.new _ _ z;have:=a.wg;omega)
def jW.Xy(a:eL p)(h:jW p Q w ck es):bS p w ck:=
 ⟨h.os,h.tape,h.output,h.size,fun b f c=>h.jT b f (a.eF _ c).2.2.1 fun z=>(by have:=a.new _ _ z;have:=(a.eF _ c).1;omega),
  fun⟨ay,sm,e⟩=>⟨ay,sm,e.of_block (h.jT _ (dW.1 e).1 (fun i=>a.bR.2.1 i.symm) fun z=>by have:=a.new _ _ z;have:=a.wg;omega)⟩⟩
def dw.of_wg(c:eL p)(h:Aside p.Wg w ck)(e:p.live ck):dw p k w ck:=
 ⟨h.os,h.tape,h.output,pJ h.size.symm,fun b _ a=>h.block b fun f=>by
  rcases a with a|a
  ·have:=c.new _ _ a;have:=c.wg;omega
  ·exact(c.eF _ a).2.1 f,.inl (h.block _ c.bR.2.1),fun _=>e⟩
def bS.of_wg(a:eL p)(h:Aside p.Wg w ck)(c:p.live ck):bS p w ck:=
 ⟨h.os,h.tape,h.output,pJ h.size.symm,fun b _ e=>h.block b fun f=>(a.eF _ e).2.1 f,fun _=>c⟩
def jA.rely(c:eL p){q:Nat}(h:jA P p k T t q d g w)(a:dw p k w ck):jA P p k T t q d g ck:=by
 cases h with
 |r0 h=>exact .r0 (h.rely dw.aH a)|k1 h=>exact .k1 (h.rely (letI:=p.pl;qE) (a.rw c))|d1 h=>exact .d1 (h.rely (letI:=p.pl;qE) (a.rw c))|d2 h=>exact .d2 (h.rely (letI:=p.pl;qE) (a.rw c))|d3 h=>exact .d3 (h.rely (letI:=p.pl;qE) (a.rw c))|d4 h=>exact .d4 (h.rely (letI:=p.pl;qE) (a.rw c))|quit h=>exact .quit h
def jA.status{q:Nat}(h:jA P p k T t q d g w):(g.status=.running∨g.status=.finished)∧(T≠1→g.status=.running):=by
 have e:∀w,p.rY k w w:=letI:=p.pl;fun w=>rK w;have c:g.status=.running→(g.status=.running∨g.status=.finished)∧(T≠1→g.status=.running):=fun h=>⟨.inl h,fun _=>h⟩;cases h with
 |r0 h=>exact c (h.status (dw.refl k) fun _ _ a=>a.1)|k1 h=>exact c (h.status e fun _ _ a=>a.1)|d1 h=>exact c (h.status e fun _ _ a=>a.1)|d2 h=>exact c (h.status e fun _ _ a=>a.1)|d3 h=>exact c (h.status e fun _ _ a=>a.1)|d4 h=>exact c (h.status e fun _ _ a=>a.1)|quit h=>exact⟨h.status,fun f=>absurd rfl f⟩
def jA.woken{q:Nat}(h:jA P p k T t q d g w)(a c:Goroutine)(w':World):Conc.woken P a c w' g=g:=by
 unfold Conc.woken;split
 ·exact again_running _ h.status.1
 ·rfl
def fh.rely{j:Nat}(h:fh P p Next Anch tag j t d S g w)(a:bS p w ck):fh P p Next Anch tag j t d S g ck:=by
 cases h with
 |skd c h=>exact .skd c (h.rely bS.aH a)|sa1 c h=>exact .sa1 c (h.rely bS.aH a)|ske c h=>exact .ske c (h.rely bS.aH a)|sgo c h=>exact .sgo c (h.rely bS.aH a)|kd h=>exact .kd (h.rely bS.aH a)|anch h=>exact .anch (h.rely bS.aH a)|w1 h=>exact .w1 (h.rely bS.aH a)|w2 h=>exact .w2 (h.rely bS.aH a)|w3 h=>exact .w3 (h.rely bS.aH a)|blk h=>exact .blk fun R e=>h R (a.trans e)|w4 h=>exact .w4 (h.rely bS.aH a)|ke h=>exact .ke (h.rely bS.aH a)|acq h=>exact .acq (h.rely bS.aH a)
def fh.status(i:∀g w,Anch g w→g.status=.running){j:Nat}(h:fh P p Next Anch tag j t d S g w):(S=1∧g.status=.running∧tag≠.blk)∨(S=0∧g.status=.blocked∧tag=.blk):=by
 have c:∀{f:lu},nv P p f t g w→(∀g w,f g w→g.status=.running)→g.status=.running:=fun h k=>h.status bS.refl k;cases h with
 |blk h=>exact .inr ⟨rfl,rfl,rfl⟩|anch h=>exact .inl ⟨rfl,c h i,by simp⟩|skd e h=>exact .inl ⟨rfl,c h fun _ _ a=>a.1,by simp⟩|sa1 e h=>exact .inl ⟨rfl,c h fun _ _ a=>a.1,by simp⟩|ske e h=>exact .inl ⟨rfl,c h fun _ _ a=>a.1,by simp⟩|sgo e h=>exact .inl ⟨rfl,c h fun _ _ a=>a.1,by simp⟩|_ h=>exact .inl ⟨rfl,c h fun _ _ a=>a.1,by simp⟩
def fh.woken(f:∀g w,Anch g w→g.status=.running){j:Nat}(h:fh P p Next Anch tag j t d S g w)(b c:Goroutine)(w':World):
 ∃a i l,fh P p Next Anch a j i d l (Conc.woken P b c w' g) w∧(a=tag∨(tag=.blk∧a=.w3))∧(mayWake P b=true→c.status=.running→a≠.blk):=by
 rcases h.status f with⟨_,m,o⟩|⟨_,_,_⟩
 ·rw[woken_run m];exact⟨tag,t,S,h,.inl rfl,fun _ _=>o⟩
 ·cases h with
  |@blk g w h=>
   unfold Conc.woken;split
   ·have e:=h w (bS.refl w);rw[Go.ConcX.again_blocked e.1 e.2.1];exact⟨_,_,_,.w3 (t:=.leaf) h,.inr ⟨rfl,rfl⟩,fun _ _=>by simp⟩
   ·rename_i r;exact⟨_,_,_,.blk h,.inl rfl,fun h1 h2=>by simp[h1,h2]at r⟩
  |_=>simp_all
end
end
section
open Conc
open Go.ConcX (stA smA OfWg WgAt KK rd wr mk AtK1 AtD1 AtD2 AtD3 AtD4 RCa RCd KCa DC0)
open Go.ConcN (sumTo upd sumTo_upd upd_ne upd_same)
structure qF(P:Program)(cu:Machine)(J:Nat)(M:Machine)(T:Trace):Prop where
 run:runNT P J cu #[]=(.next M,T)
 up:∀j,j≤J→∃m,runN P j cu=.next m∧m.world.heap.size≤M.world.heap.size
def E8{P:Program}:∀{J:Nat} {m M b:Machine} {T c:Trace} {e:Array MemOp},runNT P J m T=(.next M,c)→stepT P M=(.next b,e)→runNT P (J+1) m T=(.next b,c++e)
 |0,m,M,b,T,c,e,h,f=>by
  simp only[runNT,aN,Stepped.next.injEq]at h;obtain⟨rfl,rfl⟩:=h;simp[runNT,f]
 |J+1,m,M,b,T,c,e,h,f=>by
  rw[runNT]at h⊢;split at h
  ·rename_i k g i;exact E8 h f
  ·rename_i l n g j i;cases h;exact(j _ rfl).elim
def qF.nil(P:Program)(cu:Machine):qF P cu 0 cu #[]:=⟨rfl,fun j b=>by
 obtain rfl:j=0:=by omega
 exact⟨cu,rfl,aX _⟩⟩
def qF.step{P:Program}{cu M b:Machine}{J:Nat}{T:Trace}{c:Array MemOp}(h:qF P cu J M T)(f:stepT P M=(.next b,c))(g:M.world.heap.size≤b.world.heap.size):qF P cu (J+1) b (T++c):=by
 have e:=E8 h.run f;refine⟨e,fun j n=>?_⟩;rcases cv J j with o|i
 ·obtain rfl:j=J+1:=by omega
  refine⟨b,?_,aX _⟩;have:=runNT_fst P (J+1) cu #[];rw[e]at this;exact this.symm
 ·obtain⟨m,k,l⟩:=h.up j i;exact⟨m,k,gb l g⟩
def zT(Sh:Loc→Prop)(Wg:Nat)(w w':World)(c:Array Event):Prop:=w.heap.size≤w'.heap.size∧∀b∈c,zN Sh Wg w'.heap.size b∧b.loc≠.mark .disable∧b.loc≠.mark .enable
structure iM(P:Program)(cu:Machine)(Sh:Loc→Prop)(Wg d:Nat)(gs:Array Goroutine)(a:Goroutine)(w:World)(sl:Option (Nat×Nat))(T:Trace)(q:Nat→Nat):Prop where
 run:∃J,qF P cu J (crowd gs w sl) T
 h0:gs[0]? =some a
 nw:Leavers P T gs q
 lt:LT Sh Wg w.heap.size d T
section
variable{P:Program}{cu:Machine}{Sh:Loc→Prop}{Wg d:Nat}{gs:Array Goroutine}{a:Goroutine}{w:World}{sl:Option (Nat×Nat)}{T:Trace}{q:Nat→Nat}
def IU(b:gs[0]? =some a)(c:a.status=.running)(e:Leavers P T gs q):∀g∈gs,Conc.awake g:=by
 intro g f;obtain⟨i,hi,rfl⟩:=aoc.1 f;rcases qv i with rfl|h
 ·have:gs[0]=a:=by simpa[dN hi]using b
  rw[this];exact awake_of (.inl c)
 ·exact awake_of ((e.old i _ h (dN hi)).status.elim .inl fun j=>.inr (.inr j))
def mO:∀a b c,AtRel a b→AtRel b c→AtRel a c:=by
 rintro a b c ⟨d,rfl⟩ ⟨e,rfl⟩;exact⟨e,rfl⟩
def iM.step(h:iM P cu Sh Wg d gs a w sl T q){e:Nat}{f:Option (Nat×Nat)}(j:stepT P (crowd gs w sl)=runT P (crowd gs (w.at e) f) 0){b:Goroutine}{w':World}{c:Array Event}
 (k:stepG P true a (w.at e)=.go b w' c) (g:w.heap.size≤w'.heap.size) (l:∀m∈c,zN Sh Wg w'.heap.size m):
 iM P cu Sh Wg (deafBehind d c) ((gs.map (woken P a b w')).setIfInBounds 0 b) b w' f (T++MemOp.ofEvents 0 a.frame.fn a.frame.place c) q:=by
 obtain⟨J,n⟩:=h.run;have o:=runT_crowd_go (P:=P) (sl:=f) (i:=0) h.h0 (show stepG P (0==0) a (w.at e)=_ from k);exact⟨⟨J+1,n.step (j.trans o) g⟩,zO h.h0,((mM.of h.nw).own (.inl rfl) (dW.1 h.h0).1 _ _ _).to,h.lt.own g l⟩
def iM.slip(h:iM P cu Sh Wg d gs a w sl T q)(j:a.status=.running){i b:Nat}{c:Option (Nat×Nat)}(l:0<i){f:Goroutine}(hi:gs[i]? =some f)(m:f.status=.running)
 (n:stepT P (crowd gs w sl)=runT P (crowd gs (w.at b) c) i):
 ∃e o g,iM P cu Sh Wg d e a (w.at b) c o g∧e.size=gs.size∧sumTo e.size g<sumTo gs.size q:=by
 obtain⟨g',y,k,p,r,s,t⟩:=(mM.of h.nw).slip l id hi m;have u:(i==0)=false:=by simp;omega
 have v:=runT_crowd_go (P:=P) (sl:=c) (i:=i) hi (by rw[u];exact r (w.at b));obtain⟨J,x⟩:=h.run;refine⟨_,_,upd q i k,⟨⟨J+1,x.step (n.trans v) (aX _)⟩,by rw[tA (by omega),h.h0,ia,woken_run j],(t _ _ _).to,h.lt.mute (by omega) p⟩,by simp,?_⟩;simpa using IS (q:=q) (dW.1 hi).1 s
abbrev Xz:b8×Nat→b8×Nat→Prop:=Prod.Lex b8.Below (·<·)
def XA:WellFounded Xz:=(Prod.lex ⟨b8.Below,b8.wf⟩ Nat.lt_wfRel).wf
def iM.XB{k:lu}(L:∀g w,k g w→g.status=.running):∀(c:b8×Nat) (gs:Array Goroutine) (a:Goroutine) (w:World) (sl:Option (Nat×Nat)) (T:Trace) (q:Nat→Nat),
 c.2=sumTo gs.size q→iM P cu Sh Wg d gs a w sl T q→eW P true AtRel (zT Sh Wg) k c.1 a w→
 ∃b e w' l m o f j,iM P cu Sh Wg d b e w' l m o∧b.size=gs.size∧w.heap.size≤w'.heap.size∧stepT P (crowd b w' l)=runT P (crowd b (w'.at f) j) 0∧k e (w'.at f):=by
 intro c
 induction c using XA.induction with
 |_ c I=>
  obtain⟨t,n⟩:=c;intro gs a w sl T q M h s;simp only at M s;have u:a.status=.running:=s.status AtRel.refl L;obtain⟨i,Z,f,l,hi,N,v⟩:=crowd_pick (P:=P) (w:=w) (sl:=sl) (IU h.h0 u h.nw) ⟨0,a,h.h0,u⟩;have J:eW P true AtRel (zT Sh Wg) k t a (w.at f):=s.rely mO ⟨f,rfl⟩;rcases qv i with rfl|O
  ·rcases J.cases AtRel.refl with⟨rfl,Q⟩|⟨R,g',w',aa,K,S,p,U⟩
   ·exact⟨gs,a,w,sl,T,q,f,l,h,rfl,aX _,v,Q _ (AtRel.refl _)⟩
   ·have r:=h.step v S p.1 (fun x y=>(p.2 x y).1);rw[deafBehind_still (fun x y=>(p.2 x y).2)]at r;obtain⟨b,e,z,j,m,o,A,B,C,D,E,F,H⟩:=I (R,_) (.left _ _ K) _ _ _ _ _ _ rfl r U;exact⟨b,e,z,j,m,o,A,B,C,D.trans (by simp),gb p.1 E,F,H⟩
  ·obtain⟨b,m,o,r,V,K⟩:=h.slip u O hi N v;obtain⟨W,e,z,j,X,Y,A,B,C,D,E,F,H⟩:=I (t,_) (.right _ (by omega)) _ _ _ _ _ _ rfl r J;exact⟨W,e,z,j,X,Y,A,B,C,D.trans V,E,F,H⟩
def iM.walk{Stop:lu}(i:∀g w,Stop g w→g.status=.running)(h:iM P cu Sh Wg d gs a w sl T q)(j:Way P true AtRel (zT Sh Wg) Stop a w):
 ∃b c w' e k l f m,iM P cu Sh Wg d b c w' e k l∧b.size=gs.size∧w.heap.size≤w'.heap.size∧stepT P (crowd b w' e)=runT P (crowd b (w'.at f) m) 0∧Stop c (w'.at f):=by
 obtain⟨t,n⟩:=j.iK;exact iM.XB i (t,_) gs a w sl T q rfl h n
end
end
section
open Conc
open Go.ConcR (KK WgAt stA smA rd wr mk DC0 Payload Bk)
open Go.ConcN (AtK1 AtD1 AtD2 AtD3 AtD4 RW PayAt Has WgLive CTag WD phi Vc Ssum Fsum cnt pend OpenSt AllQuit isOpen isW3 isFin sumTo upd sumTo_upd upd_ne upd_same Vc_le Vc_upd le_sumTo bk_cell others_uncounted phi_mono phi_retag)
variable{R:Nat}{x:WD}{t':b8}
def Cf(N:Nat)(f g:Nat→b8):Prop:=∃k,k<N∧b8.Below (f k) (g k)∧∀i,i≠k→f i=g i
def O0:∀N,WellFounded (Cf N)
 |0=>⟨fun g=>⟨_,fun f ⟨k,b,_⟩=>absurd b (ox _)⟩⟩|N+1=>by
  have i:∀x,∀g:Nat→b8,g N=x→Acc (Cf (N+1)) g:=by
   intro x
   induction x using b8.wf.induction with
   |_ x l=>
    intro g
    induction g using(O0 N).induction with
    |_ g m=>
     intro c;refine⟨_,fun f ⟨k,b,d,e⟩=>?_⟩;rcases cv k N with h|h
     ·exact m f ⟨k,h,d,e⟩ ((e N (by omega)).trans c)
     ·obtain rfl:k=N:=by omega
      exact l (f k) (c▸d) f rfl
  exact⟨fun g=>i _ g rfl⟩
abbrev IV:Type:=Nat×Nat×(Nat→b8)×b8×Nat
abbrev XC(N:Nat):IV→IV→Prop:=Prod.Lex (·<·) (Prod.Lex (·<·) (Prod.Lex (Cf N) (Prod.Lex b8.Below (·<·))))
def XD(N:Nat):WellFounded (XC N):=(Prod.lex Nat.lt_wfRel (Prod.lex Nat.lt_wfRel (Prod.lex ⟨Cf N,O0 N⟩ (Prod.lex ⟨b8.Below,b8.wf⟩ Nat.lt_wfRel)))).wf
structure FS(p:dj)(j:Nat)(w:World):Prop where
 os:w.os=p.cF.os
 tape:w.tape=p.cF.tape
 output:w.output=p.cF.output
 size:p.cF.heap.size≤w.heap.size
 jT:∀b,b<p.cF.heap.size→b≠p.bR→b≠p.Wg→w.heap[b]? =p.cF.heap[b]?
 bR:kR p.bR (fun o=>∀k,k<j→¬p.cY k o) p.cF w
section
variable{P:Program}{p:dj}{Next Anch:Goroutine→World→Prop}{j k:Nat}{w w' W:World}
def FS.nr(d:eL p)(h:FS p j w)(m:p.live w)(n:j≤k):dw p k p.cF w:=by
 refine⟨h.os,h.tape,h.output,h.size,fun b f c=>?_,h.bR.xz fun o e i hi l=>?_,fun _=>m⟩
 ·rcases c with c|c
  ·exact absurd f (Nat.not_lt.2 (d.new _ _ c))
  ·exact h.jT b f (d.eF _ c).2.2.1 (d.eF _ c).2.1
 ·rcases e with e|e
  ·have:=d.rZ _ _ _ e l;omega
  ·exact d.xD _ _ l e
def FS.IQ(e:eL p)(h:FS p j w){Q:Array Event}(f:k<j)(c:jW p k w w' Q):FS p j w':=
 ⟨c.os.trans h.os,c.tape.trans h.tape,c.output.trans h.output,gb h.size c.size,
  fun b d h1 h2=>(c.jT b (dL d h.size) h1 fun z=>by have:=e.new _ _ z;omega).trans (h.jT b d h1 h2),h.bR.trans (c.bR.xz fun l i=>i k f)⟩
def FS.of_wg(c:eL p)(h:FS p j w)(cC:Aside p.Wg w w'):FS p j w':=
 ⟨cC.os.trans h.os,cC.tape.trans h.tape,cC.output.trans h.output,gb h.size (pJ cC.size.symm),fun b d h1 h2=>(cC.block b h2).trans (h.jT b d h1 h2),h.bR.trans (.inl (cC.block _ c.bR.2.1))⟩
def FS.succ(h:FS p j w):FS p (j+1) w:=⟨h.os,h.tape,h.output,h.size,h.jT,h.bR.xz fun c b i hi=>b i (by omega)⟩
abbrev pR(D:Nat→WD):Nat→Nat:=fun i=>(D i).deaf
abbrev vl(D:Nat→WD):Nat→Prop:=fun i=>(D i).stage≤6
structure fj(P:Program)(p:dj)(gs:Array Goroutine)(w:World)(T:Trace)(q:Nat→Nat)(j:Nat)(D:Nat→WD)(iN:Nat→b8)(d0:Nat):Prop where
 size:gs.size=p.aY+j
 wk:∀k,k<j→∃g,gs[p.aY+k]? =some g∧jA P p k (D k).stage (iN k) (D k).fuel (D k).deaf g w
 r3:mM P (fun i=>p.aY≤i) T gs q
 bC:fF p.Sh p.Wg p.Own p.bL p.aY j w.heap.size d0 (pR D) (vl D) T
 pay:∀k,k<j→(D k).stage≤6→p.kQ k w
 lz:FS p j w
variable{gs:Array Goroutine}{T:Trace}{q:Nat→Nat}{D:Nat→WD}{iN:Nat→b8}{d0 U:Nat}{V:b8}{tag:CTag}{a g g':Goroutine}{Q:Array Event}{ay sm:Int}
def fj.at(c:eL p)(h:fj P p gs w T q j D iN d0)(d:Nat):fj P p gs (w.at d) T q j D iN d0:=
 ⟨h.size,fun k b=>let⟨g,h1,h2⟩:=h.wk k b;⟨g,h1,h2.rely c (dw.at k w d)⟩,h.r3,h.bC,fun k b e=>c.pay k _ _ (dw.at k w d) (h.pay k b e),⟨h.lz.os,h.lz.tape,h.lz.output,h.lz.size,h.lz.jT,h.lz.bR⟩⟩
def fj.XE(d:eL p)(h:fj P p gs w T q j D iN d0)(u:k<j)(e:gs[p.aY+k]? =some g)(f:∀i,i<j→i≠k→dw p i w w')(m:FS p j w')
 (n:jA P p k x.stage t' x.fuel x.deaf g' w') (o:fF p.Sh p.Wg p.Own p.bL p.aY j w'.heap.size d0 (pR (upd D k x)) (vl (upd D k x)) (T++MemOp.ofEvents (p.aY+k) g.frame.fn g.frame.place Q)) (r:x.stage≤6→p.kQ k w'):
 fj P p ((gs.map (woken P g g' w')).setIfInBounds (p.aY+k) g') w' (T++MemOp.ofEvents (p.aY+k) g.frame.fn g.frame.place Q) q j (upd D k x) (upd iN k t') d0:=by
 refine⟨by simpa using h.size,fun i hi=>?_,h.r3.own (.inr (HY _ _)) (dW.1 e).1 _ _ _,o,fun i hi c=>?_,m⟩
 ·by_cases b:i=k
  ·subst b;rw[upd_same,upd_same];exact⟨g',zO e,n⟩
  ·obtain⟨s,t,l⟩:=h.wk i hi;rw[upd_ne D x b,upd_ne iN t' b];refine⟨s,?_,l.rely d (f i hi b)⟩;rw[tA (by omega),t,ia,l.woken]
 ·by_cases b:i=k
  ·subst b;rw[upd_same]at c;exact r c
  ·rw[upd_ne D x b]at c;exact d.pay i _ _ (f i hi b) (h.pay i hi c)
def O1(N:Nat)(S b:Nat)(iN:Nat→b8)(c d:Nat)(e:Nat→b8):Prop:=c<S∨(c=S∧(d<b∨(d=b∧Cf N e iN)))
def E9(P:Program)(p:dj)(Next Anch:Goroutine→World→Prop)(gs:Array Goroutine)(w:World)(T:Trace)(q:Nat→Nat)(j:Nat)(D:Nat→WD)(iN:Nat→b8)(d0:Nat)(tag:CTag)(a:Goroutine)(k:Nat)(g:Goroutine):Prop:=
 ∃g' w' Q b d c h i e f,stepG P false g w=.go g' w' Q∧w.heap.size≤w'.heap.size∧
  fj P p ((gs.map (woken P g g' w')).setIfInBounds (p.aY+k) g') w' (T++MemOp.ofEvents (p.aY+k) g.frame.fn g.frame.place Q) q j b d d0∧
  fh P p Next Anch c j h d0 i (woken P g g' w' a) w'∧WgAt p.ty p.Wg w' e f∧ConcN.Mode j b c e f∧O1 p.N (phi p.N (Vc j D) tag+Ssum j D) (Fsum j D) iN (phi p.N (Vc j b) c+Ssum j b) (Fsum j b) d
def zU{b:TypeId}(h:WgAt b R w ay sm):R<w.heap.size:=(dW.1 h).1
def fj.step(e:eL p)(f:∀g w,Anch g w→g.status=.running)(J:j≤p.N)(h:fj P p gs w T q j D iN d0)(l:fh P p Next Anch tag j V d0 U a w)(c:k<j)(m:gs[p.aY+k]? =some g){x:WD}{t':b8}{st' sm':Int}
 (n:stepG P false g w=.go g' w' Q) (o:w.heap.size≤w'.heap.size) (r:bS p w w') (s:∀i,i<j→i≠k→dw p i w w') (t:FS p j w')
 (u:jA P p k x.stage t' x.fuel x.deaf g' w') (y:fF p.Sh p.Wg p.Own p.bL p.aY j w'.heap.size d0 (pR (upd D k x)) (vl (upd D k x)) (T++MemOp.ofEvents (p.aY+k) g.frame.fn g.frame.place Q)) (z:x.stage≤6→p.kQ k w')
 (A:WgAt p.ty p.Wg w' st' sm') (B:∀b,(b=tag∨(tag=.blk∧b=.w3))→(mayWake P g=true→g'.status=.running→b≠.blk)→ConcN.Mode j (upd D k x) b st' sm')
 (C:(x.stage<(D k).stage∧cnt x≤cnt (D k))∨(x.stage=(D k).stage∧(x.fuel<(D k).fuel∨(x.fuel=(D k).fuel∧b8.Below t' (iN k))))):
 E9 P p Next Anch gs w T q j D iN d0 tag a k g:=by
 obtain⟨b,E,F,H,d,I⟩:=(l.rely r).woken f g g' w';refine⟨g',w',Q,upd D k x,upd iN k t',b,E,F,st',sm',n,o,h.XE e c m s t u y z,H,A,B b d I,?_⟩;have K:=sumTo_upd D x cnt c;have L:=sumTo_upd D x WD.stage c;have M:=sumTo_upd D x WD.fuel c;unfold O1;rw[phi_retag p.N _ d];simp only[Vc,Ssum,Fsum]at *;rcases C with⟨h1,h2⟩|⟨h1,h2⟩
 ·have:=phi_mono p.N (v':=sumTo j fun a=>cnt (upd D k x a)) (v:=sumTo j fun a=>cnt (D a)) (by omega) tag;exact .inl (by omega)
 ·have O:cnt x=cnt (D k):=by simp only[cnt,h1]
  have ev:(sumTo j fun a=>cnt (upd D k x a))=sumTo j fun a=>cnt (D a):=by omega
  rw[ev];refine .inr ⟨by omega,?_⟩;rcases h2 with h2|⟨h2,h3⟩
  ·exact .inl (by omega)
  ·exact .inr ⟨by omega,k,by omega,by rw[upd_same];exact h3,fun i hi=>upd_ne iN t' hi⟩
def Fa(x:WD):pR (upd D k x) k=x.deaf:=by show(upd D k x k).deaf=_;rw[upd_same]
def Fb(x:WD):∀i,i≠k→pR (upd D k x) i=pR D i:=fun i hi=>by show(upd D k x i).deaf=_;rw[upd_ne D x hi]
def Fc{i:Nat}(hi:i≠k):vl (upd D k x) i↔vl D i:=by show(upd D k x i).stage≤6↔_;rw[upd_ne D x hi]
def fj.tB(b:eL p)(r:∀g w,Anch g w→g.status=.running)(s:j≤p.N)(h:fj P p gs w T q j D iN d0)(t:fh P p Next Anch tag j V d0 U a w)(e:k<j)(u:gs[p.aY+k]? =some g)(v:WgAt p.ty p.Wg w ay sm){l m:Int}
 (y:stepG P false g w=.go g' w' Q) (cC:Aside p.Wg w w') (n:WgAt p.ty p.Wg w' l m) (z:∀c∈Q,Bk p.Wg c)
 (A:∀i c,Q[i]? =some c→(MemAct.ofEvent c).touch?=none∨0<deafBehind (D k).deaf (Q.extract 0 i)) (B:jA P p k x.stage t' x.fuel x.deaf g' w') (C:deafBehind (D k).deaf Q=x.deaf) (o:(D k).stage≤6) (I:x.stage≤6)
 (E:∀d,(d=tag∨(tag=.blk∧d=.w3))→(mayWake P g=true→g'.status=.running→d≠.blk)→ConcN.Mode j (upd D k x) d l m)
 (F:(x.stage<(D k).stage∧cnt x≤cnt (D k))∨(x.stage=(D k).stage∧(x.fuel<(D k).fuel∨(x.fuel=(D k).fuel∧b8.Below t' (iN k))))):
 E9 P p Next Anch gs w T q j D iN d0 tag a k g:=by
 have f:p.live w':=⟨_,_,n⟩;refine h.step b r s t e u y (pJ cC.size.symm) (.of_wg b cC f) (fun i _ _=>.of_wg b cC f) (h.lz.of_wg b cC) B ?_ (fun _=>b.pay k _ _ (.of_wg b cC f) (h.pay k e o)) n E F;rw[cC.size];refine(h.bC.book b.vk e (zU v) z A (qC:=pR (upd D k x)) (by rw[Fa];exact C.symm) (Fb x)).OW fun i hi H=>?_;by_cases c:i=k
 ·subst c;exact o
 ·exact(Fc c).1 H
def XF:∀(i:Nat) b,(#[rd (stA R),wr (stA R)]:Array Event)[i]? =some b→(MemAct.ofEvent b).touch?=none∨0<deafBehind 1 ((#[rd (stA R),wr (stA R)]:Array Event).extract 0 i)|0,_,_=>.inr (by simp[deafBehind])|1,_,_=>.inr (by simp[deafBehind,rd])|i+2,b,c=>by simp at c
def O2{c:Event}(h:0<U):∀(i:Nat) b,(#[c]:Array Event)[i]? =some b→(MemAct.ofEvent b).touch?=none∨0<deafBehind U ((#[c]:Array Event).extract 0 i)|0,_,_=>.inr (by simpa[deafBehind]using h)|i+1,b,d=>by simp at d
def XG:∀(i:Nat) c,(semEvents (smA R))[i]? =some c→(MemAct.ofEvent c).touch?=none∨0<deafBehind 1 ((semEvents (smA R)).extract 0 i)|0,_,b=>by simp[semEvents]at b;subst b;exact .inl rfl|1,_,_=>.inr (by simp[deafBehind,semEvents])|2,_,_=>.inr (by simp[deafBehind,semEvents])|3,_,b=>by simp[semEvents]at b;subst b;exact .inl rfl|i+4,c,b=>by simp[semEvents]at b
def Cg:∀b∈#[rd (stA R),wr (stA R)],Bk R b:=by intro b c;simp at c;rcases c with rfl|rfl<;>exact bk_cell _ _ rfl
def Ch:∀b∈#[rd (stA R)],Bk R b:=by intro b c;simp at c;subst c;exact bk_cell _ _ rfl
def XH:∀b∈#[wr (stA R)],Bk R b:=by intro b c;simp at c;subst c;exact bk_cell _ _ rfl
def IW:∀b∈#[mk .disable],Bk R b:=by intro b c;simp at c;subst c;exact .inl rfl
def O3:∀b∈#[mk .enable],Bk R b:=by intro b c;simp at c;subst c;exact .inr (.inl rfl)
def O4:∀b∈semEvents (smA R),Bk R b:=by
 intro b c;simp[semEvents]at c;rcases c with rfl|rfl|rfl|rfl
 ·exact .inl rfl
 ·exact bk_cell _ _ rfl
 ·exact bk_cell _ _ rfl
 ·exact .inr (.inl rfl)
def fj.XI(o:eL p)(E:∀g w,Anch g w→g.status=.running)(F:j≤p.N)(aT:j+pend tag≤p.N)(h:fj P p gs w T q j D iN d0)(H:fh P p Next Anch tag j V d0 U a w)(c:WgAt p.ty p.Wg w ay sm)(S:ConcN.Mode j D tag ay sm)(d:k<j)(A:gs[p.aY+k]? =some g)(ae:g.status=.running)(aB:∀g' w' Q,stepG P false g w=.go g' w' Q→p.xA k w w'):
 E9 P p Next Anch gs w T q j D iN d0 tag a k g:=by
 obtain⟨aC,aq,r⟩:=h.wk k d;obtain rfl:g=aC:=by rw[A]at aq;exact dV aq
 have aU:=o.E7;have aV:=Vc_le j D;have same:∀ah ai,ConcN.Mode j (upd D k ⟨(D k).stage,ah,ai⟩) tag ay sm:=fun ah ai=>S.same ah ai;have ar:p.live w:=⟨_,_,c⟩;generalize l:(D k).stage=aj at r;generalize ak:(D k).fuel=m at r;generalize u:(D k).deaf=Z at r;generalize au:iN k=t at r;have idle:∀{g':Goroutine} {t':b8},stepG P false g w=.go g' w #[]→jA P p k aj t' m Z g' w→b8.Below t' t→aj≤6→E9 P p Next Anch gs w T q j D iN d0 tag a k g:=fun{g' t'} e aD aE aF=>
  h.tB o E F H d A c (x:=⟨aj,m,Z⟩) (t':=t') e (.refl p.Wg w) c (by simp) (by simp) aD (by rw[u];rfl) (by omega) aF (fun B n _=>ConcN.Mode.retag (by have:=same m Z;rwa[l]at this) n) (.inr ⟨l.symm,.inr ⟨ak.symm,by rw[au];exact aE⟩⟩)
 cases r with
 |r0 r=>
  rcases oO.cases (dw.refl k) r with⟨rfl,I⟩|⟨t',g',w',Q,J,e,aG⟩
  ·obtain⟨_,aH,g',e,af,al⟩:=I w (dw.refl k w);obtain⟨t',L⟩:=(Way.vi (letI:=p.pl;qE) al).iK;refine h.step o E F H d A (x:=⟨6,0,0⟩) (t':=t') e (aX _) (bS.refl w) (fun i _ _=>dw.refl i w) h.lz (.k1 L) ?_ (fun _=>aH) c (fun B n _=>(S.counted d (by omega) (.inl rfl) _ _).retag n) (.inl ⟨by simp only[l];omega,by simp[cnt,l]⟩);have h1:=h.bC.release o.vk d u (zU c) (fn:=g.frame.fn) (pos:=g.frame.place) (rel':=vl (upd D k ⟨6,0,0⟩)) fun i hi X=>(Fc hi).1 X;have b:pR (upd D k ⟨6,0,0⟩)=pR D:=funext fun i=>by
    by_cases b:i=k
    ·subst b;rw[Fa];exact u.symm
    ·exact Fb _ i b
   rw[b];exact h1
  ·obtain⟨O,K⟩:=aG (aB _ _ _ e);refine h.step o E F H d A (x:=⟨7,0,0⟩) (t':=t') e O.size (O.Xy o) (fun i _ hi=>O.nr o hi) (h.lz.IQ o d O) (.r0 K) ?_ (fun b=>by simp only at b;omega) (st':=ay) (sm':=sm) ?_
    (fun B n _=>ConcN.Mode.retag (by have:=same 0 0;rwa[l]at this) n) (.inr ⟨l.symm,.inr ⟨ak.symm,by rw[au];exact J⟩⟩)
   ·refine(h.bC.IQ o.vk d (fun b=>by have b:(D k).stage≤6:=b;omega) O.size (fun b M=>(O.evs b M).1) (qC:=pR (upd D k ⟨7,0,0⟩)) ?_ (Fb _)).OW fun i hi X=>?_
    ·rw[Fa,deafBehind_still (fun b M=>(O.evs b M).2)];exact u.symm
    ·by_cases b:i=k
     ·subst b;have X:(upd D i ⟨7,0,0⟩ i).stage≤6:=X;rw[upd_same]at X;simp only at X;omega
     ·exact(Fc b).1 X
   ·exact c.of_block (O.jT _ (zU c) (fun b=>o.bR.2.1 b.symm) fun z=>by have:=o.new _ _ z;have:=o.wg;omega)
 |k1 r=>
  rcases eW.cases (letI:=p.pl;rK) r with⟨rfl,I⟩|⟨t',g',w',Q,J,e,⟨rfl,rfl⟩,K⟩
  ·obtain⟨_,g',e,af,al⟩:=I w (letI:=p.pl;rK w);obtain⟨t',L⟩:=(Way.vi (letI:=p.pl;qE) al).iK;exact h.tB o E F H d A c (x:=⟨5,0,1⟩) (t':=t') e (.refl p.Wg w) c IW (fun i b M=>.inl (by have:=aod M;simp at this;subst this;rfl)) (.d1 L) (by rw[u];rfl) (by omega) (by simp)
    (fun B n _=>(S.counted d (by omega) (.inr rfl) _ _).retag n) (.inl ⟨by simp only[l];omega,by simp[cnt,l]⟩)
  ·exact idle e (.k1 K) J (by omega)
 |d1 r=>
  rcases eW.cases (letI:=p.pl;rK) r with⟨rfl,I⟩|⟨t',g',w',Q,J,e,⟨rfl,rfl⟩,K⟩
  ·obtain⟨_,av⟩:=I w (letI:=p.pl;rK w);have aI:cnt (D k)=1:=by simp[cnt,l]
   have aW:1≤Vc j D:=by have:=le_sumTo (f:=fun x=>cnt (D x)) d;simp only[Vc];omega
   have aw:∀q,cnt (⟨1,q,1⟩:WD)=0:=fun _=>rfl;have ax:∀q,OpenSt j D→OpenSt j (upd D k ⟨1,q,1⟩):=fun q h a C=>by
    by_cases b:a=k
    ·subst b;rw[upd_same];simp
    ·rw[upd_ne D _ b];exact h a C
   have am:∀i b,(#[rd (stA p.Wg),wr (stA p.Wg)]:Array Event)[i]? =some b→(MemAct.ofEvent b).touch?=none∨0<deafBehind (D k).deaf ((#[rd (stA p.Wg),wr (stA p.Wg)]:Array Event).extract 0 i):=by rw[u];exact XF
   have an:deafBehind (D k).deaf #[rd (stA p.Wg),wr (stA p.Wg)]=1:=by rw[u];rfl
   cases S with
   |opn h1 h2 h3=>
    obtain⟨v,ag⟩:∃v,Vc j D+pend tag=v+1:=⟨Vc j D+pend tag-1,by omega⟩;rw[ag]at c;have ao:WgAt p.ty p.Wg w (((v:Nat)+1)*KK+((0:Nat):Int)) 0:=by simpa using c
    obtain⟨g',e,_,y⟩:=av v 0 (by omega) (by omega) ao;obtain⟨s,y⟩:=y (by omega);have ap:Vc j (upd D k ⟨1,s,1⟩)+pend tag=v:=by have:=Vc_upd D (⟨1,s,1⟩:WD) d;have:=aw s;omega
    refine h.tB o E F H d A c (x:=⟨1,s,1⟩) (t':=.leaf) e (aside_setCell w (stA p.Wg) _) (c.setSt _) Cg am (.quit y) an (by omega) (by simp) (fun B n _=>ConcN.Mode.retag (tag:=tag) ?_ n) (.inl ⟨by simp only[l];omega,by simp[cnt]⟩);have b:(v:Int)*KK+((0:Nat):Int)=((Vc j (upd D k ⟨1,s,1⟩)+pend tag:Nat):Int)*KK:=by rw[ap];simp
    rw[b];exact .opn h1 (ax s h2) (fun vs ev=>by have:=h3 vs ev;omega)
   |reg h1 h2 h3=>
    obtain⟨v,ag⟩:∃v,Vc j D=v+1:=⟨Vc j D-1,by omega⟩;rw[ag]at c;have ao:WgAt p.ty p.Wg w (((v:Nat)+1)*KK+((1:Nat):Int)) 0:=by simpa using c
    obtain⟨g',e,ar,y⟩:=av v 1 (by omega) (by omega) ao;by_cases aJ:v=0
    ·subst aJ;obtain⟨af,aa⟩:=ar ⟨rfl,rfl⟩;obtain⟨t',L⟩:=(Way.vi (letI:=p.pl;qE) aa).iK;refine h.tB o E F H d A c (x:=⟨4,0,1⟩) (t':=t') e (aside_setCell w (stA p.Wg) _) (c.setSt _) Cg am (.d2 L) an (by omega) (by simp) (fun B n _=>ConcN.Mode.retag (tag:=tag) ?_ n) (.inl ⟨by simp only[l];omega,by simp[cnt]⟩);have Y:∀a,a<j→a≠k→(D a).stage=1:=fun a C b=>by
      have az:=others_uncounted d ag aI a C b;have:=h2 a C;simp only[cnt]at az;split at az<;>omega
     have:=ConcN.Mode.last (j:=j) (D:=upd D k ⟨4,0,1⟩) (tag:=tag) k h1 d (by rw[upd_same];simp) (fun a C b=>by rw[upd_ne D _ b];exact Y a C b);rw[upd_same]at this;simpa using this
    ·obtain⟨s,y⟩:=y (by omega);have ap:Vc j (upd D k ⟨1,s,1⟩)=v:=by have:=Vc_upd D (⟨1,s,1⟩:WD) d;have:=aw s;omega
     refine h.tB o E F H d A c (x:=⟨1,s,1⟩) (t':=.leaf) e (aside_setCell w (stA p.Wg) _) (c.setSt _) Cg am (.quit y) an (by omega) (by simp) (fun B n _=>ConcN.Mode.retag (tag:=tag) ?_ n) (.inl ⟨by simp only[l];omega,by simp[cnt]⟩);have b:(v:Int)*KK+((1:Nat):Int)=((Vc j (upd D k ⟨1,s,1⟩):Nat):Int)*KK+1:=by rw[ap];simp
     rw[b];exact .reg h1 (ax s h2) (by omega)
   |last aK _ h2 h3 h4=>
    by_cases b:k=aK
    ·subst b;omega
    ·have:=h4 k d b;omega
   |sema h2=>have:=h2 k d;omega
   |fin _ h2=>have:=h2 k d;omega
  ·exact idle e (.d1 K) J (by omega)
 |d2 r=>
  rcases eW.cases (letI:=p.pl;rK) r with⟨rfl,I⟩|⟨t',g',w',Q,J,e,⟨rfl,rfl⟩,K⟩
  ·obtain⟨_,ab⟩:=I w (letI:=p.pl;rK w);obtain⟨ad,Y,rfl,rfl⟩:=S.isLast d (by omega);simp only[l]at c;obtain⟨g',e,af,aa⟩:=ab (by simpa using c);obtain⟨t',L⟩:=(Way.vi (letI:=p.pl;qE) aa).iK;refine h.tB o E F H d A c (x:=⟨3,0,1⟩) (t':=t') e (.refl p.Wg w) c Ch (by rw[u];exact O2 (by omega)) (.d3 L) (by rw[u];rfl) (by omega) (by simp) (fun B n _=>ConcN.Mode.retag (tag:=tag) ?_ n) (.inl ⟨by simp only[l];omega,by simp[cnt]⟩);have:=ConcN.Mode.last (j:=j) (D:=upd D k ⟨3,0,1⟩) (tag:=tag) k ad d (by rw[upd_same];simp) (fun a C b=>by rw[upd_ne D _ b];exact Y a C b);rw[upd_same]at this;simpa using this
  ·exact idle e (.d2 K) J (by omega)
 |d3 r=>
  rcases eW.cases (letI:=p.pl;rK) r with⟨rfl,I⟩|⟨t',g',w',Q,J,e,⟨rfl,rfl⟩,K⟩
  ·obtain⟨_,ab⟩:=I w (letI:=p.pl;rK w);obtain⟨ad,Y,rfl,rfl⟩:=S.isLast d (by omega);simp only[l]at c;obtain⟨g',e,af,aa⟩:=ab (by simpa using c);obtain⟨t',L⟩:=(Way.vi (letI:=p.pl;qE) aa).iK;refine h.tB o E F H d A c (x:=⟨2,0,1⟩) (t':=t') e (aside_setCell w (stA p.Wg) _) (c.setSt 0) XH (by rw[u];exact O2 (by omega)) (.d4 L) (by rw[u];rfl) (by omega) (by simp) (fun B n _=>ConcN.Mode.retag (tag:=tag) ?_ n) (.inl ⟨by simp only[l];omega,by simp[cnt]⟩);have:=ConcN.Mode.last (j:=j) (D:=upd D k ⟨2,0,1⟩) (tag:=tag) k ad d (by rw[upd_same];simp) (fun a C b=>by rw[upd_ne D _ b];exact Y a C b);rw[upd_same]at this;simpa using this
  ·exact idle e (.d3 K) J (by omega)
 |d4 r=>
  rcases eW.cases (letI:=p.pl;rK) r with⟨rfl,I⟩|⟨t',g',w',Q,J,e,⟨rfl,rfl⟩,K⟩
  ·obtain⟨_,aL,ab⟩:=I w (letI:=p.pl;rK w);obtain⟨ad,Y,rfl,rfl⟩:=S.isLast d (by omega);simp only[l]at c;obtain⟨g',e,s,y⟩:=ab (by simpa using c);have aM:g'.status=.running:=by
    cases s with
    |zero=>exact absurd y.2 (by decide)|succ q=>exact y.elim (fun x=>absurd x.2 (by decide)) (fun x=>x.1)
   refine h.tB o E F H d A c (x:=⟨1,s,1⟩) (t':=.leaf) e (aside_setCell w (smA p.Wg) _) (c.setSm 1) O4 (by rw[u];exact XG) (.quit y) (by rw[u];simp[deafBehind,semEvents]) (by omega) (by simp) (fun B n aN=>?_) (.inl ⟨by simp only[l];omega,by simp[cnt]⟩);have aO:=aN aL aM;have aP:B=.w3:=by
    rcases n with rfl|⟨_,rfl⟩
    ·cases B<;>first|rfl|exact ad.elim|exact absurd rfl aO
    ·rfl
   subst aP;simp only[l,gT];exact .sema fun a C=>by
    by_cases b:a=k
    ·subst b;rw[upd_same]
    ·rw[upd_ne D _ b];exact Y a C b
  ·exact idle e (.d4 K) J (by omega)
 |quit r=>
  cases m with
  |zero=>rw[r.1]at ae;cases ae
  |succ m=>
   rcases r with⟨aQ,_⟩|⟨_,g',Q,aA,aR,y⟩
   ·rw[aQ]at ae;cases ae
   ·have aS:∀b∈Q,Bk p.Wg b:=fun b M=>Go.ConcR.bk_of_mute (aA b M);exact h.tB o E F H d A c (x:=⟨1,m,deafBehind Z Q⟩) (t':=.leaf) (aR w) (.refl p.Wg w) c aS (fun i b M=>.inl (touch_mute (aA b (aod M)))) (.quit y) (by rw[u]) (by omega) (by simp)
     (fun B n _=>ConcN.Mode.retag (by have:=same m (deafBehind Z Q);rwa[l]at this) n) (.inr ⟨l.symm,.inl (by simp only[ak];omega)⟩)
end
end
section
open Conc
open Go.ConcR (KK WgAt stA smA rd wr mk DC0 Payload Bk)
open Go.ConcN (WgLive CTag WD phi Vc Ssum Fsum cnt pend OpenSt AllQuit isOpen isW3 isFin sumTo upd sumTo_upd upd_ne upd_same Vc_le allQuit_of)
variable{a':Goroutine}{S:b8}{U:CTag}
section
variable{P:Program}{p:dj}{Next Anch:Goroutine→World→Prop}{j k:Nat}{w w' Y:World}
variable{V:Array Goroutine}{T:Trace}{q:Nat→Nat}{D:Nat→WD}{W:Nat→b8}{Q X:Nat}{R:b8}{tag:CTag}{a g g':Goroutine}{es:Array Event}{ay sm:Int}
def fj.gw(b:eL p)(h:fj P p V w T q j D W Q)(e:w.heap.size≤w'.heap.size)(c:∀i,i<j→dw p i w w')(f:FS p j w')(l:∀m∈es,Ev0 p.Wg p.bL w'.heap.size m):
 fj P p ((V.map (woken P a a' w')).setIfInBounds 0 a') w' (T++MemOp.ofEvents 0 a.frame.fn a.frame.place es) q j D W (deafBehind Q es):=by
 have s:=b.aY;refine⟨by simpa using h.size,fun i hi=>?_,h.r3.own (.inl rfl) (by rw[h.size];omega) _ _ _,h.bC.main b.vk e l,fun i hi n=>b.pay i _ _ (c i hi) (h.pay i hi n),f⟩;obtain⟨o,r,d⟩:=h.wk i hi;refine⟨o,?_,d.rely b (c i hi)⟩;rw[tA (by omega),r,ia,d.woken]
def Fe(N b:Nat)(tag:CTag)(R:b8)(X:Nat)(U:CTag)(S:b8)(c:Nat):Prop:=phi N b U<phi N b tag∨(phi N b U=phi N b tag∧(b8.Below S R∨(S=R∧c<X)))
def Ff(P:Program)(p:dj)(Next Anch:Goroutine→World→Prop)(V:Array Goroutine)(w:World)(T:Trace)(q:Nat→Nat)(j:Nat)(D:Nat→WD)(W:Nat→b8)(Q:Nat)(tag:CTag)(R:b8)(X:Nat)(a:Goroutine):Prop:=
 ∃a' w' es U S b c d e,stepG P true a w=.go a' w' es∧w.heap.size≤w'.heap.size∧fj P p ((V.map (woken P a a' w')).setIfInBounds 0 a') w' (T++MemOp.ofEvents 0 a.frame.fn a.frame.place es) q j D W c∧
  fh P p Next Anch U j S c b a' w'∧WgAt p.ty p.Wg w' d e∧ConcN.Mode j D U d e∧Fe p.N (Vc j D) tag R X U S b
def XJ(P:Program)(p:dj)(Next Anch:Goroutine→World→Prop)(V:Array Goroutine)(w:World)(T:Trace)(q:Nat→Nat)(j:Nat)(D:Nat→WD)(W:Nat→b8)(Q:Nat)(tag:CTag)(R:b8)(X:Nat)(a:Goroutine):Prop:=
 Ff P p Next Anch V w T q j D W Q tag R X a∨
 (∃a' child r,stepG P true a w=.spawn a' child w #[]∧tag=.sp r 2∧r<p.N∧j=p.N-(r+1)∧Q=0∧child.status=.running∧(dw p j p.cF w→Works P p j child w)∧oP P p Anch r a' w)∨
 ∃a',stepG P true a w=.go a' w #[mk (.acquire (stA p.Wg))]∧j=p.N∧Q=0∧AllQuit j D∧((∀k,k<p.N→p.kQ k w)→Next a' w)
def XK{B:Nat}(d:p.Wg<B){b:Event}(h:Bk p.Wg b):Ev0 p.Wg p.bL B b:=⟨fun e c=>.inl ⟨(IN h c).1,by rw[(IN h c).2];simp⟩,OU h _,OV h d⟩
def fj.idle(e:eL p)(h:fj P p V w T q j D W Q)(l:WgAt p.ty p.Wg w ay sm)(u:ConcN.Mode j D tag ay sm)(m:fh P p Next Anch U j S Q 1 a' w')(n:ConcN.Mode j D U ay sm)(o:stepG P true a w=.go a' w' es)(r:zP p w w' es)(s:Fe p.N (Vc j D) tag R X U S 1):
 Ff P p Next Anch V w T q j D W Q tag R X a:=by
 obtain⟨⟨d,rfl⟩,f⟩:=r;have t:deafBehind Q es=Q:=deafBehind_still (fun b c=>(f b c).2) Q;have h1:=h.gw (a:=a) (a':=a') e (w':=w.at d) (aX _) (fun i _=>dw.at i w d) (h.at e d).lz fun b c=>(f b c).1;rw[t]at h1;exact⟨a',_,es,U,S,1,Q,ay,sm,o,aX _,h1,m,l,n,s⟩
def fj.book0(b:eL p)(h:fj P p V w T q j D W Q)(m:WgAt p.ty p.Wg w ay sm){c:Nat}{d e:Int}(n:stepG P true a w=.go a' w' es)(cC:Aside p.Wg w w')(l:WgAt p.ty p.Wg w' d e)(o:∀f∈es,Bk p.Wg f)
 (r:fh P p Next Anch U j S (deafBehind Q es) c a' w') (s:ConcN.Mode j D U d e) (t:Fe p.N (Vc j D) tag R X U S c):Ff P p Next Anch V w T q j D W Q tag R X a:=by
 have u:p.live w':=⟨_,_,l⟩;exact⟨a',w',es,U,S,c,_,d,e,n,pJ cC.size.symm,h.gw b (pJ cC.size.symm) (fun i _=>.of_wg b cC u) (h.lz.of_wg b cC) (fun f v=>XK (by rw[cC.size];exact zU m) (o f v)),r,l,s,t⟩
def fj.w1(d:eL p)(h:fj P p V w T q p.N D W 1)(c:WgAt p.ty p.Wg w ay sm)(i:ConcN.Mode p.N D .w1 ay sm)(o:ConcN.Mode p.N D tag ay sm){t:b8}(r:nv P p (qD P p Next Anch) t a w)(b:phi p.N (Vc p.N D) .w1<phi p.N (Vc p.N D) tag∨(tag=.w1∧R=t)):
 Ff P p Next Anch V w T q p.N D W 1 tag R X a:=by
 have C:=d.E7;have E:=Vc_le p.N D;rcases eW.cases bS.refl r with⟨rfl,s⟩|⟨n,g',w',es,u,e,v,x⟩
 ·obtain⟨_,y⟩:=s w (bS.refl w);obtain⟨z,rfl,rfl,_⟩:=i.open_inv trivial;obtain⟨a',e,A,B⟩:=y (Vc p.N D) (by omega) (by simpa[pend]using c);by_cases f:Vc p.N D=0
  ·obtain⟨n,l⟩:=(A f).iK;refine h.book0 d c e (.refl p.Wg w) c Ch (.ke (Anch:=Anch) l) ?_ (.inl ?_)
   ·have m:((Vc p.N D+pend .w1:Nat):Int)*KK=0:=by rw[f];simp[pend]
    rw[m];exact .fin trivial (allQuit_of z f)
   ·rcases b with b|⟨rfl,_⟩<;>simp only[phi]at *<;>omega
  ·obtain⟨n,l⟩:=(B f).iK;refine h.book0 d c e (.refl p.Wg w) c Ch (.w2 l) (i.reopen trivial trivial rfl fun vs m=>by cases m;omega) (.inl ?_);rcases b with b|⟨rfl,_⟩<;>simp only[phi]at *<;>omega
 ·refine h.idle d c o (.w1 x) i e v ?_;rcases b with b|⟨rfl,rfl⟩
  ·exact .inl b
  ·exact .inr ⟨rfl,.inl u⟩
def fj.main(f:eL p)(ab:∀g w,Anch g w→g.status=.running)(B:∀g w,Anch g w→fG P p (qD P p Next Anch) g w)(h:fj P p V w T q j D W Q)(e:fh P p Next Anch tag j R Q X a w)(b:WgAt p.ty p.Wg w ay sm)(d:ConcN.Mode j D tag ay sm)(C:a.status=.running):
 XJ P p Next Anch V w T q j D W Q tag R X a:=by
 have ad:=f.E7;have ae:=Vc_le j D;have same:∀{S:b8},b8.Below S R→Fe p.N (Vc j D) tag R X tag S 1:=fun E=>.inr ⟨rfl,.inl E⟩;cases e with
 |skd u e=>
  rcases eW.cases bS.refl e with⟨rfl,i⟩|⟨o,g',w',es,l,c,m,n⟩
  ·obtain⟨_,a',c,s⟩:=i w (bS.refl w);obtain⟨o,t⟩:=s.iK;exact .inl (h.book0 f b c (.refl p.Wg w) b IW (.sa1 u t) (d.reopen trivial trivial rfl (by simp)) (.inl (by simp only[phi];omega)))
  ·exact .inl (h.idle f b d (.skd u n) d c m (same l))
 |sa1 u e=>
  rename_i r;rcases eW.cases bS.refl e with⟨rfl,i⟩|⟨o,g',w',es,l,c,m,n⟩
  ·obtain⟨_,y⟩:=i w (bS.refl w);obtain⟨z,rfl,rfl,_⟩:=d.open_inv trivial;obtain⟨a',c,s⟩:=y (Vc (p.N-(r+1)) D) (by omega) (by simpa[pend]using b);obtain⟨o,t⟩:=s.iK;refine .inl (h.book0 f b c (aside_setCell w (stA p.Wg) _) (b.setSt _) Cg (.ske u t) ?_ (.inl (by simp only[phi];omega)));have x:(((Vc (p.N-(r+1)) D:Nat):Int)+1)*KK=((Vc (p.N-(r+1)) D+pend (.sp r 3):Nat):Int)*KK:=by simp[pend]
   rw[x];exact .opn trivial z (by simp)
  ·exact .inl (h.idle f b d (.sa1 u n) d c m (same l))
 |ske u e=>
  rcases eW.cases bS.refl e with⟨rfl,i⟩|⟨o,g',w',es,l,c,m,n⟩
  ·obtain⟨_,a',c,s⟩:=i w (bS.refl w);obtain⟨o,t⟩:=s.iK;exact .inl (h.book0 f b c (.refl p.Wg w) b O3 (.sgo u t) (d.reopen trivial trivial rfl (by simp)) (.inl (by simp only[phi];omega)))
  ·exact .inl (h.idle f b d (.ske u n) d c m (same l))
 |sgo u e=>
  rename_i r;rcases eW.cases bS.refl e with⟨rfl,i⟩|⟨o,g',w',es,l,c,m,n⟩
  ·obtain⟨_,a',child,F,H,I,J⟩:=i w (bS.refl w);exact .inr (.inl ⟨a',child,r,F,rfl,u,rfl,rfl,H,I,J⟩)
  ·exact .inl (h.idle f b d (.sgo u n) d c m (same l))
 |kd e=>
  rcases eW.cases bS.refl e with⟨rfl,i⟩|⟨o,g',w',es,l,c,m,n⟩
  ·obtain⟨_,a',c,s⟩:=i w (bS.refl w);obtain⟨o,t⟩:=s.iK;exact .inl (h.book0 f b c (.refl p.Wg w) b IW (.anch t) (d.reopen trivial trivial rfl (by simp)) (.inl (by simp only[phi];omega)))
  ·exact .inl (h.idle f b d (.kd n) d c m (same l))
 |anch e=>
  rcases eW.cases bS.refl e with⟨rfl,i⟩|⟨o,g',w',es,l,c,m,n⟩
  ·obtain⟨o,t⟩:=(B a w (i w (bS.refl w))).iK;exact .inl (h.w1 f b (d.reopen trivial trivial rfl (by simp)) d t (.inl (by simp only[phi];omega)))
  ·exact .inl (h.idle f b d (.anch n) d c m (same l))
 |w1 e=>exact .inl (h.w1 f b d d e (.inr ⟨rfl,rfl⟩))|w2 e=>
  rename_i vs;rcases eW.cases bS.refl e with⟨rfl,i⟩|⟨o,g',w',es,l,c,m,n⟩
  ·obtain⟨_,y⟩:=i w (bS.refl w);obtain⟨z,rfl,rfl,K⟩:=d.open_inv trivial;obtain⟨af,h1⟩:=K vs rfl;obtain⟨L,M⟩:=y (Vc p.N D) (by omega) (by simpa[pend]using b);by_cases x:Vc p.N D=vs
   ·obtain⟨a',c,s⟩:=L x;obtain⟨o,t⟩:=s.iK;exact .inl (h.book0 f b c (aside_setCell w (stA p.Wg) _) (b.setSt _) Cg (.w3 (Anch:=Anch) t) (.reg trivial z (by omega)) (.inl (by simp only[phi];omega)))
   ·obtain⟨a',c,s⟩:=M x;obtain⟨o,t⟩:=s.iK;exact .inl (h.book0 f b c (.refl p.Wg w) b Ch (.anch t) (d.reopen trivial trivial rfl (by simp)) (.inl (by simp only[phi];omega)))
  ·exact .inl (h.idle f b d (.w2 n) d c m (same l))
 |w3 e=>
  rcases eW.cases bS.refl e with⟨rfl,i⟩|⟨o,g',w',es,l,c,m,n⟩
  ·obtain⟨_,ag,A,O⟩:=i w (bS.refl w);cases d with
   |opn h1 _ _=>exact h1.elim|reg h1 h2 h3=>exact .inl (h.book0 f b (A ⟨_,b⟩) (.refl p.Wg w) b (by simp) (.blk (Anch:=Anch) i) (.reg trivial h2 h3) (.inr ⟨rfl,.inr ⟨rfl,by omega⟩⟩))|last Z h1 h2 h3 h4=>exact .inl (h.book0 f b (A ⟨_,b⟩) (.refl p.Wg w) b (by simp) (.blk (Anch:=Anch) i) (.last Z trivial h2 h3 h4) (.inr ⟨rfl,.inr ⟨rfl,by omega⟩⟩))|sema h2=>
    obtain⟨a',c,s⟩:=O b;obtain⟨o,t⟩:=s.iK;exact .inl (h.book0 f b c (aside_setCell w (smA p.Wg) _) (b.setSm 0) O4 (.w4 (Anch:=Anch) (by simpa[deafBehind,semEvents]using t)) (.fin trivial h2) (.inl (by simp only[phi];omega)))
   |fin h1 _=>exact h1.elim
  ·exact .inl (h.idle f b d (.w3 n) d c m (same l))
 |blk e=>simp at C|w4 e=>
  rcases eW.cases bS.refl e with⟨rfl,i⟩|⟨o,g',w',es,l,c,m,n⟩
  ·obtain⟨_,aa⟩:=i w (bS.refl w);obtain⟨v,rfl,rfl⟩:=d.fin_inv trivial;obtain⟨a',c,s⟩:=aa b;obtain⟨o,t⟩:=s.iK;exact .inl (h.book0 f b c (.refl p.Wg w) b Ch (.ke (Anch:=Anch) t) (.fin trivial v) (.inl (by simp only[phi];omega)))
  ·exact .inl (h.idle f b d (.w4 n) d c m (same l))
 |ke e=>
  rcases eW.cases bS.refl e with⟨rfl,i⟩|⟨o,g',w',es,l,c,m,n⟩
  ·obtain⟨_,a',c,s⟩:=i w (bS.refl w);obtain⟨v,rfl,rfl⟩:=d.fin_inv trivial;obtain⟨o,t⟩:=s.iK;exact .inl (h.book0 f b c (.refl p.Wg w) b O3 (.acq (Anch:=Anch) t) (.fin trivial v) (.inl (by simp only[phi];omega)))
  ·exact .inl (h.idle f b d (.ke n) d c m (same l))
 |acq e=>
  rcases eW.cases bS.refl e with⟨rfl,i⟩|⟨o,g',w',es,l,c,m,n⟩
  ·obtain⟨_,a',c,s⟩:=i w (bS.refl w);obtain⟨v,rfl,rfl⟩:=d.fin_inv trivial;exact .inr (.inr ⟨a',c,rfl,rfl,v,s⟩)
  ·exact .inl (h.idle f b d (.acq n) d c m (same l))
end
end
section
open Conc
open Go.ConcX (stA smA OfWg WgAt KK rd wr mk RCa RCd KCa DC0)
open Go.ConcN (sumTo upd sumTo_upd upd_ne upd_same)
def mP(P:Program)(cu:Machine)(F:FuncId)(c:Nat):Prop:=
 cu.world.heap.size≤c∧∃j m a,runN P j cu=.next m∧runN P (j+1) cu=.next a∧c<a.world.heap.size∧(∀i,i≤j→∀b,runN P i cu=.next b→b.world.heap.size≤c)∧∃g,m.gs[0]? =some g∧g.frame.fn=F
structure ir(P:Program)(cu:Machine)(F:FuncId)(Sh:Loc→Prop)(gs:Array Goroutine)(g:Goroutine)(w:World)(sl:Option (Nat×Nat))(T:Trace)(q:Nat→Nat):Prop where
 run:∃J,qF P cu J (crowd gs w sl) T
 h0:gs[0]? =some g
 nw:Leavers P T gs q
 vm:Past Sh w.heap.size T
 oQ:∀l,Sh l→∃a,l=.cell a∧a.block<w.heap.size∧mP P cu F a.block
def xE(P:Program)(cu:Machine)(F:FuncId)(g:Goroutine)(w:World):Prop:=∃Sh gs sl T q,ir P cu F Sh gs g w sl T q
@[reducible] def jb(P:Program) (cu:Machine) (F:FuncId):aF where
 main:=true
 plain f:=f≠F
 mine c:=¬mP P cu F c
 rd _ _:=False
 jump b g w a:=xE P cu F g w→∃g' w',xE P cu F g' w'∧a g' w'
section
variable{P:Program}{cu:Machine}{F:FuncId}{Sh:Loc→Prop}{gs:Array Goroutine}{g:Goroutine}{w:World}{sl:Option (Nat×Nat)}{T:Trace}{q:Nat→Nat}
def Ci{J:Nat}{M:Machine}(h:runNT P J cu #[]=(.next M,T)):runN P J cu=.next M:=by
 have:=runNT_fst P J cu #[];rw[h]at this;exact this.symm
def O5{J:Nat}{M b:Machine}{p:Array MemOp}(f:qF P cu J M T)(r:stepT P M=(.next b,p))(l:M.gs[0]? =some g){c:Nat}(h1:M.world.heap.size≤c)(h2:c<b.world.heap.size):mP P cu F c↔g.frame.fn=F:=by
 have n:=Ci f.run;have o:=Ci (E8 f.run r);have up:∀i,i≤J→∀d,runN P i cu=.next d→d.world.heap.size≤c:=fun i hi d e=>by
  obtain⟨m,a,v⟩:=f.up i hi;rw[e]at a;cases a;omega
 constructor
 ·rintro⟨_,j,m,s,a,t,x,u,d,e,k⟩;rcases w6 j J with h|rfl|h
  ·have:=up (j+1) h s t;omega
  ·rw[n]at a;cases a;rw[l]at e;cases e;exact k
  ·have:=u (J+1) h b o;omega
 ·intro k;exact⟨up 0 (kI _) cu rfl,J,M,b,n,o,h2,up,g,l,k⟩
def Past.XL{Sh:Loc→Prop}{B a:Nat}{t:Trace}(h:Past Sh B t)(cQ:B≤a){fn:FuncId}{c:String}{b:Array Event}(d:∀e∈b,EvL Sh a e):Past Sh a (t++MemOp.ofEvents 0 fn c b):=(h.mono cQ).own d
def ir.step(h:ir P cu F Sh gs g w sl T q){b:Nat}{d:Option (Nat×Nat)}(k:stepT P (crowd gs w sl)=runT P (crowd gs (w.at b) d) 0){g':Goroutine}{w':World}{e:Array Event}
 (o:stepG P true g (w.at b)=.go g' w' e) (f:w.heap.size≤w'.heap.size) (p:∀j∈e,EvL Sh w'.heap.size j):
 ir P cu F Sh ((gs.map (woken P g g' w')).setIfInBounds 0 g') g' w' d (T++MemOp.ofEvents 0 g.frame.fn g.frame.place e) q∧∀c,w.heap.size≤c→c<w'.heap.size→(mP P cu F c↔g.frame.fn=F):=by
 obtain⟨J,m⟩:=h.run;have n:=runT_crowd_go (P:=P) (sl:=d) (i:=0) h.h0 (show stepG P (0==0) g (w.at b)=_ from o);exact⟨⟨⟨J+1,m.step (k.trans n) f⟩,zO h.h0,((mM.of h.nw).own (.inl rfl) (dW.1 h.h0).1 _ _ _).to,Past.XL h.vm f p,fun l r=>let⟨a,j,x,s⟩:=h.oQ l r;⟨a,j,dL x f,s⟩⟩,fun c h1 h2=>O5 m (k.trans n) h.h0 h1 h2⟩
def ir.slip(h:ir P cu F Sh gs g w sl T q)(f:g.status=.running){i a:Nat}{b:Option (Nat×Nat)}(j:0<i){c:Goroutine}(hi:gs[i]? =some c)(l:c.status=.running)
 (m:stepT P (crowd gs w sl)=runT P (crowd gs (w.at a) b) i):
 ∃d n e,ir P cu F Sh d g (w.at a) b n e∧sumTo d.size e<sumTo gs.size q:=by
 obtain⟨g',x,k,o,p,r,s⟩:=(mM.of h.nw).slip j id hi l;have t:(i==0)=false:=by simp;omega
 have u:=runT_crowd_go (P:=P) (sl:=b) (i:=i) hi (by rw[t];exact p (w.at a));obtain⟨J,v⟩:=h.run;refine⟨_,_,upd q i k,⟨⟨J+1,v.step (m.trans u) (aX _)⟩,by rw[tA (by omega),h.h0,ia,woken_run f],(s _ _ _).to,h.vm.mute (by omega) o,h.oQ⟩,?_⟩;simpa using IS (q:=q) (dW.1 hi).1 r
def Fg [aF]{w a:World}(h:AtRel w a):er w a:=by
 obtain⟨d,rfl⟩:=h;exact⟨rfl,rfl,rfl,aX _,fun _ _ _=>rfl,fun _ _ _ _=>rfl⟩
def XM{n:Nat}(d:∀l,Sh l→∃a,l=.cell a∧a.block<n∧mP P cu F a.block){B:Nat}{b:Event}(h:@EK (jb P cu F) B b):EvL Sh B b:=by
 rcases h with⟨a,wr,rfl,c,cQ⟩|⟨m,rfl,c⟩
 ·refine evL_cell a wr (fun e=>?_) cQ;obtain⟨j,b,_,f⟩:=d _ e;cases b;rcases c.2 with h|⟨_,h,_⟩
  ·exact h.1 f
  ·exact h
 ·refine⟨fun k i=>?_,?_,?_,?_⟩<;>cases c
  ·cases i
  ·simp
  ·simp
  ·trivial
def along{m:lu}(D:∀g w,m g w→g.status=.running)(h:@dr (jb P cu F) P m g w)(a:xE P cu F g w):
 ∃Sh gs g' w' sl T q b e,ir P cu F Sh gs g' w' sl T q∧stepT P (crowd gs w' sl)=runT P (crowd gs (w'.at b) e) 0∧m g' (w'.at b):=by
 letI:=jb P cu F;have E:∀d,AtRel w d→∀n Sh gs sl T q,sumTo gs.size q=n→ir P cu F Sh gs g d sl T q→
  ∃Sh gs g' w' sl T q b e,ir P cu F Sh gs g' w' sl T q∧stepT P (crowd gs w' sl)=runT P (crowd gs (w'.at b) e) 0∧m g' (w'.at b):=by
  clear a
  induction h with
  |@stop g w H=>
   intro d f n
   induction n using Nat.strongRecOn generalizing d with
   |_ n t=>
    intro Sh gs sl T q z a;have A:∀b,m g (d.at b):=fun b=>H _ (Fg (mO _ _ _ f ⟨b,rfl⟩));have j:=D _ _ (A 0);obtain⟨i,I,b,e,hi,u,l⟩:=crowd_pick (P:=P) (w:=d) (sl:=sl) (IU a.h0 j a.nw) ⟨0,g,a.h0,j⟩;rcases qv i with rfl|v
    ·exact⟨Sh,gs,g,d,sl,T,q,b,e,a,l,A b⟩
    ·obtain⟨o,p,r,k,K⟩:=a.slip j v hi u l;exact t _ (by omega) (d.at b) (mO _ _ _ f ⟨b,rfl⟩) Sh o e p r rfl k
  |@step g w j L M _ x=>
   intro d f n
   induction n using Nat.strongRecOn generalizing d with
   |_ n t=>
    intro Sh gs sl T q z a;obtain⟨i,I,b,e,hi,u,l⟩:=crowd_pick (P:=P) (w:=d) (sl:=sl) (IU a.h0 j a.nw) ⟨0,g,a.h0,j⟩;rcases qv i with rfl|v
    ·have B:=Fg (mO _ _ _ f ⟨b,rfl⟩:AtRel w (d.at b));obtain⟨g',w',N,⟨y,_⟩,s⟩:=M _ B;obtain⟨J,O⟩:=a.run;have Q:=runT_crowd_go (P:=P) (sl:=e) (i:=0) a.h0 (show stepG P (0==0) g (d.at b)=_ from y);have C:lp (d.at b) w':=fun c h1 h2=>⟨fun R=>L ((O5 O (l.trans Q) a.h0 h1 h2).1 R),id⟩;have s:=s C;obtain⟨k,_⟩:=a.step l y s.size (fun S U=>XM a.oQ (s.evs S U));exact x _ g' w' N B y C w' (AtRel.refl w') _ Sh _ e _ q rfl k
    ·obtain⟨o,p,r,k,K⟩:=a.slip j v hi u l;exact t _ (by omega) (d.at b) (mO _ _ _ f ⟨b,rfl⟩) Sh o e p r rfl k
  |@jump g w Y V _ x=>
   intro d f n Sh gs sl T q z a;obtain⟨g',w',⟨W,o,e,p,r,k⟩,X⟩:=V d (Fg f) ⟨Sh,gs,sl,T,q,a⟩;exact x d g' w' (Fg f) X w' (AtRel.refl w') _ W o e p r rfl k
 obtain⟨Sh,gs,sl,T,q,a⟩:=a;exact E w (AtRel.refl w) _ Sh gs sl T q rfl a
def O6(P:Program)(b:Value→World→Prop)(g:Goroutine)(w:World):Prop:=g.status=.running∧∃v a,stepG P true g w=.ended (.done v) w a∧a=#[]∧b v w
def ends{l:Value→World→Prop}(h:@dr (jb P cu F) P (O6 P l) g w)(a:xE P cu F g w):
 ∃N last d w' n,runNT P (N+1) cu #[]=(.ended d w',n)∧runN P N cu=.next last∧step P last=.ended d w'∧Good P l last d w' n:=by
 obtain⟨Sh,gs,g',w',sl,T,q,e,r,a,s,C,v,D,t,rfl,u⟩:=along (fun _ _ b=>b.1) h a;obtain⟨J,o⟩:=a.run;have x:=runT_many_ended (P:=P) (sl:=r) (i:=0) a.h0 (show stepG P (0==0) g' (w'.at e)=_ from t);have y:=Ci o.run;have p:=s.trans x;have z:MemOp.ofEvents 0 g'.frame.fn g'.frame.place #[]=#[]:=by simp[MemOp.ofEvents]
 refine⟨J,crowd gs w' sl,.done v,w'.at e,T,?_,y,by simp[step,p],v,rfl,u,a.vm.clean,a.vm.over,⟨fun b f=>?_,rfl⟩,fun j b f k=>?_⟩
 ·have:∀{J:Nat} {m:Machine} {c:Trace},runNT P J m c=(.next (crowd gs w' sl),T)→runNT P (J+1) m c=(.ended (.done v) (w'.at e),T):=by
   intro J
   induction J with
   |zero=>
    intro m c h;simp only[runNT,aN,Stepped.next.injEq]at h;obtain⟨rfl,rfl⟩:=h;simp[runNT,p,z]
   |succ J A=>
    intro m c h;rw[runNT]at h⊢;split at h
    ·exact A h
    ·rename_i B _;cases h;exact(B _ rfl).elim
  exact this o.run
 ·obtain⟨j,k⟩:=List.mem_iff_getElem?.1 f;rw[s9]at k;exact⟨_,(a.nw.old (1+j) b (by omega) (by simpa[crowd]using k)).leaves⟩
 ·exact⟨q j,(a.nw.old j b (by omega) f).hears _⟩
def xE.first(g:Goroutine)(w:World):xE P (solo g w) F g w:=
 ⟨fun _=>False,#[g],none,#[],fun _=>0,⟨0,.nil _ _⟩,rfl,leavers_one P g,past_nil.mono (kI _),fun _ a=>a.elim⟩
end
end
section
open Conc
open Go.ConcR (KK WgAt stA smA rd wr mk DC0 Payload Bk)
open Go.ConcN (WgLive CTag WD phi Vc Ssum Fsum cnt pend OpenSt AllQuit isOpen isW3 isFin sumTo upd sumTo_upd upd_ne upd_same Vc_le allQuit_of sumTo_le sumTo_upd_out)
def O7(P:Program)(M:Machine)(i:Nat):Prop:=∃(g:Goroutine) (d:Nat) (b:Option (Nat×Nat)),M.gs[i]? =some g∧g.status=.running∧stepT P M=runT P (crowd M.gs (M.world.at d) b) i
open Classical in
def Fh(P:Program)(M:Machine):Nat:=if h:∃i,O7 P M i then h.choose else 0
def XN{P:Program}{Q:Array Goroutine}{w:World}{sl:Option (Nat×Nat)}(e:∀g∈Q,awake g)(f:∃(i:Nat) (g:Goroutine),Q[i]? =some g∧g.status=.running):
 ∃(i:Nat) (g:Goroutine) (d:Nat) (b:Option (Nat×Nat)),Fh P (crowd Q w sl)=i∧Q[i]? =some g∧g.status=.running∧stepT P (crowd Q w sl)=runT P (crowd Q (w.at d) b) i:=by
 have c:∃i,O7 P (crowd Q w sl) i:=by
  obtain⟨i,g,d,b,h1,h2,h3⟩:=crowd_pick (P:=P) (w:=w) (sl:=sl) e f;exact⟨i,g,d,b,h1,h2,h3⟩
 obtain⟨g,d,b,h1,h2,h3⟩:=c.choose_spec;exact⟨_,g,d,b,by unfold Fh;rw[dif_pos c],h1,h2,h3⟩
def zV(P:Program)(R:Machine)(i c:Nat):Prop:=
 ∃J M b,runN P J R=.next M∧runN P (J+1) R=.next b∧c<b.world.heap.size∧(∀j,j≤J→∀d,runN P j R=.next d→d.world.heap.size≤c)∧Fh P M=i
def XO{P:Program}{R:Machine}{i b c:Nat}(h:zV P R i c)(f:zV P R b c):i=b:=by
 obtain⟨J,M,t,l,m,u,n,o⟩:=h;obtain⟨d,v,x,e,cm,y,r,s⟩:=f;rcases w6 J d with h|rfl|h
 ·have:=r (J+1) h _ m;omega
 ·rw[l]at e;cases e;exact o.symm.trans s
 ·have:=n (d+1) h _ cm;omega
def XP{P:Program}{R:Machine}{J:Nat}{M b:Machine}{T:Trace}{f:Array MemOp}(d:qF P R J M T)(h:stepT P M=(.next b,f)){c:Nat}(h1:M.world.heap.size≤c)(h2:c<b.world.heap.size):zV P R (Fh P M) c:=
 ⟨J,M,b,Ci d.run,Ci (E8 d.run h),h2,fun j i n l=>by
  obtain⟨m,e,o⟩:=d.up j i;rw[l]at e;cases e;omega,rfl⟩
section
variable{P:Program}{R:Machine}{p:dj}{Next Anch:Goroutine→World→Prop}{j k:Nat}{w w' Y:World}
variable{Q:Array Goroutine}{T:Trace}{q:Nat→Nat}{D:Nat→WD}{U:Nat→b8}{V W:Nat}{X:b8}{tag:CTag}{a g g':Goroutine}{S:Array Event}{ay sm:Int}
def fh.bound(h:fh P p Next Anch tag j X V W a w):j+pend tag≤p.N:=by
 cases h<;>simp only[pend]<;>(try simp)<;>omega
def jA.quits{b m d:Nat}{t:b8}(h:jA P p k b t m d g w)(c:b=1):QuitsD P m d g:=by
 cases h<;>first|(exact absurd c (by decide))|assumption
def fj.runs(h:fj P p Q w T q j D U V)(m:∀g w,Anch g w→g.status=.running)(n:Q[0]? =some a)(o:fh P p Next Anch tag j X V W a w)(r:ConcN.Mode j D tag ay sm):∃(i:Nat) (g:Goroutine),Q[i]? =some g∧g.status=.running:=by
 rcases o.status m with⟨_,s,_⟩|⟨_,_,rfl⟩
 ·exact⟨0,a,n,s⟩
 ·have e:∀k,k<j→(D k).stage≠1→∃(i:Nat) (g:Goroutine),Q[i]? =some g∧g.status=.running:=fun k b d=>by
   obtain⟨g,t,u⟩:=h.wk k b;exact⟨_,g,t,u.status.2 d⟩
  cases r with
  |opn h1 _ _=>exact h1.elim|reg _ h2 h3=>
   by_cases l:∃k,k<j∧(D k).stage≠1
   ·obtain⟨k,b,d⟩:=l;exact e k b d
   ·have:=sumTo_le (f:=fun i=>cnt (D i)) (c:=0) (j:=j) fun i hi=>by
     have:(D i).stage=1:=Classical.byContradiction fun v=>l ⟨i,hi,v⟩;simp[cnt,this]
    simp only[Vc]at h3;omega
  |last x _ h2 h3 _=>exact e x h2 (by omega)|fin h1 _=>exact h1.elim
def fj.slip(c:eL p)(v:∀g w,Anch g w→g.status=.running)(h:fj P p Q w T q j D U V){i:Nat}(d:0<i)(hi:i<p.aY)(e:Q[i]? =some g)(f:g.status=.running):
 ∃g' S n,stepG P false g w=.go g' w S∧q i=n+1∧fj P p ((Q.map (woken P g g' w)).setIfInBounds i g') w (T++MemOp.ofEvents i g.frame.fn g.frame.place S) (upd q i n) j D U V:=by
 obtain⟨g',S,n,l,m,o,r⟩:=h.r3.slip d (by omega) e f;refine⟨g',S,n,m w,o,by simpa using h.size,fun k s=>?_,r _ _ _,h.bC.mute c.vk (by omega) (fun k _=>by omega) l,h.pay,h.lz⟩;obtain⟨t,u,b⟩:=h.wk k s;refine⟨t,?_,b⟩;rw[tA (by omega),u,ia,b.woken]
def fj.spawn(f:eL p)(h:fj P p Q w T q j D U 0)(r:p.live w){a' child:Goroutine}(s:dw p j p.cF w→Works P p j child w){x y:MemOp}(l:x.g=0∧x.act=.go Q.size)(d:y.g=Q.size∧y.act=.start):
 ∃t,fj P p ((Q.setIfInBounds 0 a').push child) w (T++#[x,y]) q (j+1) (upd D j ⟨7,0,0⟩) (upd U j t) 0:=by
 obtain⟨t,u⟩:=(s (h.lz.nr f r (aX _))).iK;have B:=f.aY;have c:=h.size;have v:Deaf T (p.aY+j)=0:=by rw[←c];exact h.r3.above _ (aX _)
 have m:∀i,Deaf (T++#[x,y]) i=Deaf T i:=fun i=>by
  have b:T++#[x,y]=(T++#[x])++#[y]:=by apply jO;simp
  rw[b,Deaf_push,Deaf_push];simp[deafStep,l.2,d.2]
 refine⟨t,by simp[c];omega,fun i hi=>?_,⟨fun i g hi n o=>?_,fun i hi=>?_⟩,h.bC.fork f.vk v (by rw[←c];exact l) (by rw[←c];exact d) (Fa ⟨7,0,0⟩) (Fb _) (fun b=>?_) (fun i hi z=>(Fc hi).1 z),fun i hi e=>?_,h.lz.succ⟩
 ·by_cases b:i=j
  ·subst b;rw[upd_same,upd_same];refine⟨child,?_,.r0 u⟩;rw[←c,Bh];simp
  ·obtain⟨y,d,A⟩:=h.wk i (by omega);rw[upd_ne D _ b,upd_ne U _ b];refine⟨y,?_,A⟩;rw[Wh (by simp[c];omega),←dN,El (by omega)];exact d
 ·have C:i<p.aY:=Nat.lt_of_not_le n;rw[m];rw[Wh (by simp[c];omega),←dN,El (by omega)]at o;exact h.r3.old i g hi n o
 ·rw[m];exact h.r3.above i (by simp at hi;omega)
 ·have b:(upd D j ⟨7,0,0⟩ j).stage≤6:=b;rw[upd_same]at b;simp only at b;omega
 ·by_cases b:i=j
  ·subst b;rw[upd_same]at e;simp only at e;omega
  ·rw[upd_ne D _ b]at e;exact h.pay i (by omega) e
def XQ(P:Program)(R:Machine)(p:dj)(Next:Goroutine→World→Prop):Prop:=∃(J:Nat) (Q:Array Goroutine) (a:Goroutine) (w:World) (sl:Option (Nat×Nat)) (T:Trace) (q:Nat→Nat),qF P R J (crowd Q w sl) T∧Q.size=p.aY+p.N∧Q[0]? =some a∧Leavers P T Q q∧
 Past (fun l=>p.Sh l∨pQ p.Wg l) w.heap.size T∧Next a w∧(∀k,k<p.N→p.kQ k w)∧FS p p.N w
def XR(P:Program)(R:Machine)(p:dj)(Next Anch:Goroutine→World→Prop)(b:IV):Prop:=
 ∃(J:Nat) (Q:Array Goroutine) (a:Goroutine) (w:World) (sl:Option (Nat×Nat)) (T:Trace) (q:Nat→Nat) (j:Nat) (D:Nat→WD) (U:Nat→b8) (tag:CTag) (X:b8) (V W:Nat) (ay sm:Int),qF P R J (crowd Q w sl) T∧Q[0]? =some a∧fj P p Q w T q j D U V∧
  fh P p Next Anch tag j X V W a w∧WgAt p.ty p.Wg w ay sm∧ConcN.Mode j D tag ay sm∧b=(phi p.N (Vc j D) tag+Ssum j D,sumTo Q.size q+Fsum j D,U,X,W)
def crowd_runs(u:eL p)(aI:∀k c,k<p.N→p.cF.heap.size≤c→zV P R (p.aY+k) c→p.mN k c)(C:∀g w,Anch g w→g.status=.running)(aJ:∀g w,Anch g w→fG P p (qD P p Next Anch) g w):∀ae,XR P R p Next Anch ae→XQ P R p Next:=by
 intro ae
 induction ae using(XD p.N).induction with
 |_ ae K=>
  rintro⟨J,Q,a,w,sl,T,q,j,D,U,tag,X,V,W,ay,sm,E,v,h,af,z,L,rfl⟩;have aW:=u.aY;have aK:=af.bound;have aL:∀g∈Q,Conc.awake g:=by
   intro g A;obtain⟨i,hi,rfl⟩:=aoc.1 A;have ag:Q[i]? =some Q[i]:=dN hi;rcases qv i with rfl|aj
   ·rw[v]at ag;rw[←dV ag];exact awake_of ((af.status C).elim (fun x=>.inl x.2.1) fun x=>.inr (.inl x.2.1))
   ·rcases cv i p.aY with b|aM
    ·exact awake_of ((h.r3.old i _ aj (by omega) ag).status.elim .inl fun x=>.inr (.inr x))
    ·obtain⟨g,A,M⟩:=h.wk (i-p.aY) (by have:=h.size;omega);rw[show p.aY+(i-p.aY)=i by omega,ag]at A;rw[dV A];exact awake_of (M.status.1.elim .inl fun x=>.inr (.inr x))
  obtain⟨i,x,e,f,aN,hi,O,F⟩:=XN (P:=P) (w:=w) (sl:=sl) aL (h.runs C v af L);have m:=h.at u e;have ak:=af.rely (bS.at w e);rcases qv i with rfl|aj
  ·obtain rfl:x=a:=by rw[v]at hi;exact(dV hi).symm
   rcases m.main u C aJ ak z L O with⟨a',w',S,o,Z,aa,aO,al,am,s,an,d,ab,M,ao,b⟩|⟨a',child,r,aP,rfl,aZ,rfl,rfl,a0,ap,ah⟩|⟨a',s,rfl,rfl,ad,ah⟩
   ·have l:=runT_crowd_go (P:=P) (sl:=f) (i:=0) hi (show stepG P (0==0) x (w.at e)=_ from s);refine K _ ?_ ⟨J+1,_,a',w',f,_,q,j,D,U,o,Z,aO,aa,al,am,E.step (F.trans l) an,zO v,d,ab,M,ao,rfl⟩;rcases b with b|⟨B,b⟩
    ·exact .left _ _ (by omega)
    ·rw[B];have S:((Q.map (woken P x a' w')).setIfInBounds 0 a').size=Q.size:=by simp
     rw[S];refine .right _ (.right _ (.right _ ?_));rcases b with b|⟨rfl,b⟩
     ·exact .left _ _ b
     ·exact .right _ b
   ·have l:=runT_crowd_spawn (P:=P) (sl:=f) (i:=0) hi (show stepG P (0==0) x (w.at e)=_ from aP);have aQ:∀aq ar:MemOp,((MemOp.ofEvents 0 x.frame.fn x.frame.place #[]).push aq).push ar=#[aq,ar]:=fun aq ar=>by simp[MemOp.ofEvents]
    have au:=E.step (F.trans l) (aX _);rw[aQ]at au;obtain⟨aR,rfl,rfl,_⟩:=L.open_inv trivial;obtain⟨t,d⟩:=m.spawn u ⟨_,_,z⟩ (a':=a') ap (x:={g:=0,fn:=x.frame.fn,pos:=x.frame.place,act:=.go Q.size}) (y:={g:=Q.size,fn:=child.frame.fn,pos:=x.frame.place,act:=.start}) ⟨rfl,rfl⟩ ⟨rfl,rfl⟩;have av:Vc (p.N-(r+1)+1) (upd D (p.N-(r+1)) ⟨7,0,0⟩)=Vc (p.N-(r+1)) D+1:=by
     simp only[Vc,sumTo,upd_same];rw[sumTo_upd_out D _ cnt (aX _)];rfl
    have aD:Ssum (p.N-(r+1)+1) (upd D (p.N-(r+1)) ⟨7,0,0⟩)=Ssum (p.N-(r+1)) D+7:=by
     simp only[Ssum,sumTo,upd_same];rw[sumTo_upd_out D _ WD.stage (aX _)]
    have ai:OpenSt (p.N-(r+1)+1) (upd D (p.N-(r+1)) ⟨7,0,0⟩):=fun i hi=>by
     by_cases H:i=p.N-(r+1)
     ·subst H;rw[upd_same];simp
     ·rw[upd_ne D _ H];exact aR i (by omega)
    have aE:((Q.setIfInBounds 0 a').push child)[0]? =some a':=by
     have:=(dW.1 v).1;rw[Wh (by simpa using this),←dN];simp[this]
    have aS:p.N-(r+1)+1=p.N-r:=by omega
    rw[aS]at d av aD ai;have aw:∀o,pend o=0→((Vc (p.N-(r+1)) D+pend (.sp r 2):Nat):Int)*KK=((Vc (p.N-r) (upd D (p.N-(r+1)) ⟨7,0,0⟩)+pend o:Nat):Int)*KK:=fun o aT=>by rw[av,aT];simp[pend]
    cases r with
    |zero=>
     simp only[gz]at d av aD ai aw;obtain⟨ax,az⟩:=Way.iK ah;refine K _ ?_ ⟨J+1,_,a',w.at e,f,_,q,p.N,_,_,.kd,ax,0,1,_,_,au,aE,d,.kd az,z,?_,rfl⟩
     ·exact .left _ _ (by simp only[phi];omega)
     ·rw[aw .kd rfl];exact .opn trivial ai (by simp)
    |succ aA=>
     obtain⟨ax,az⟩:=Way.iK ah;refine K _ ?_ ⟨J+1,_,a',w.at e,f,_,q,p.N-(aA+1),_,_,.sp aA 5,ax,0,1,_,_,au,aE,d,.skd (by omega) az,z,?_,rfl⟩
     ·exact .left _ _ (by simp only[phi];omega)
     ·rw[aw (.sp aA 5) rfl];exact .opn trivial ai (by simp)
   ·have l:=runT_crowd_go (P:=P) (sl:=f) (i:=0) hi (show stepG P (0==0) x (w.at e)=_ from s);have d:=m.gw (a:=x) (a':=a') (es:=#[mk (.acquire (stA p.Wg))]) u (w':=w.at e) (aX _) (fun i _=>dw.refl i _) m.lz (fun H B=>by
     simp at B;subst B;exact⟨fun x O=>(by cases O),by simp[aob],zU z⟩)
    have aF:∀k,k<p.N→p.kQ k (w.at e):=fun k I=>m.pay k I (by rw[ad k I];omega);refine⟨J+1,_,a',w.at e,f,_,fun i=>if i<p.aY then q i else(D (i-p.aY)).fuel,E.step (F.trans l) (aX _),d.size,zO v,⟨fun i g hi A=>?_,d.r3.above⟩,m.bC.acquire u.vk (zU z) fun k I=>by show(D k).stage≤6;rw[ad k I];omega,ah aF,aF,m.lz⟩;by_cases H:i<p.aY
    ·simp only[H,gT];exact d.r3.old i g hi (by omega) A
    ·simp only[H,ei];have b:i-p.aY<p.N:=by have:=(dW.1 A).1;rw[d.size]at this;omega
     obtain⟨y,aB,ap⟩:=d.wk (i-p.aY) b;have aG:=d.bC.deafW (i-p.aY) b;rw[show p.aY+(i-p.aY)=i by omega]at aB aG;rw[A]at aB;obtain rfl:=dV aB;rw[aG];exact ap.quits (ad _ b)
  ·have aC:(i==0)=false:=by simp;omega
   rcases cv i p.aY with b|aM
   ·obtain⟨g',S,n,s,ad,d⟩:=m.slip u C aj b hi O;have l:=runT_crowd_go (P:=P) (sl:=f) (i:=i) hi (by rw[aC];exact s);obtain⟨o,Z,aa,ab,aH,_⟩:=ak.woken C x g' (w.at e);refine K _ ?_ ⟨J+1,_,woken P x g' (w.at e) a,w.at e,f,_,upd q i n,j,D,U,o,Z,V,aa,ay,sm,E.step (F.trans l) (aX _),by rw[tA (by omega),v];rfl,d,ab,z,L.retag aH,rfl⟩;rw[Go.ConcN.phi_retag p.N _ aH];have S:((Q.map (woken P x g' (w.at e))).setIfInBounds i g').size=Q.size:=by simp
    rw[S];have:=IS (q:=q) (dW.1 hi).1 ad;exact .right _ (.left _ _ (by omega))
   ·obtain⟨k,rfl⟩:∃k,i=p.aY+k:=⟨i-p.aY,by omega⟩;have I:k<j:=by have:=(dW.1 hi).1;rw[h.size]at this;omega
    obtain⟨g',w',S,aU,aV,o,Z,aa,al,am,s,an,d,ab,M,ao,b⟩:=m.XI u C (by omega) aK ak z L I hi O fun g' w' S s c h1 h2=>by
     have l:=runT_crowd_go (P:=P) (sl:=f) (i:=p.aY+k) hi (by rw[aC];exact s);have:=XP E (F.trans l) h1 h2;rw[aN]at this;exact aI k c (by omega) (gb h.lz.size h1) this
    have l:=runT_crowd_go (P:=P) (sl:=f) (i:=p.aY+k) hi (by rw[aC];exact s);refine K _ ?_ ⟨J+1,_,woken P x g' w' a,w',f,_,q,j,aU,aV,o,Z,V,aa,al,am,E.step (F.trans l) an,by rw[tA (by omega),v];rfl,d,ab,M,ao,rfl⟩;have S:((Q.map (woken P x g' w')).setIfInBounds (p.aY+k) g').size=Q.size:=by simp
    rw[S];rcases b with b|⟨B,b⟩
    ·exact .left _ _ b
    ·rw[B];rcases b with b|⟨B,b⟩
     ·exact .right _ (.left _ _ (by omega))
     ·rw[B];exact .right _ (.right _ (.left _ _ b))
end
end
section
open Conc
open Go.ConcR (KK WgAt stA smA rd wr mk DC0 Payload Bk)
@[reducible] def dj.co(p:dj) (k:Nat) (f:Nat→Bool→Bool):aF where
 main:=false
 plain _:=True
 mine c:=c=p.bR∨p.mN k c
 rd c _:=p.mL c
 jump _ _ _ _:=False
 shr c:=c=p.bR
 lim:=f
structure Cj(p:dj)(k:Nat)(f:Nat→Bool→Bool):Prop where
 wr:∀o,f o true=true→p.cY k o
 rd:∀o,f o false=true→p.cY k o∨p.iL o
section
variable{P:Program}{p:dj}{k:Nat}{f:Nat→Bool→Bool}{w w' R v Q v':World}{S:Array Event}
def O8(n:eL p)(j:Cj p k f)(h:@ff (p.co k f) w v)(l:p.bR<v.heap.size)(e:dw p k v Q):∃R,@er (p.co k f) w R∧@ff (p.co k f) R Q:=by
 letI:=p.co k f;obtain⟨d,m⟩:∃d,w.heap[p.bR]? =some d:=⟨_,dN (by rw[←h.size];exact l)⟩;have i:∀c,(Q.heap.setIfInBounds p.bR d)[c]? =if c=p.bR then some d else Q.heap[c]? :=fun c=>by
  by_cases a:c=p.bR
  ·subst a;rw[av rfl,Array.getElem?_setIfInBounds_self_of_lt (dL l e.size)]
  ·rw[ak a,El (fB a)]
 have hold:∀c,c<w.heap.size→c≠p.bR→p.mN k c∨p.mL c→Q.heap[c]? =w.heap[c]? :=fun c b o g=>(e.own c (by rw[h.size];exact b) g).trans (h.same c o);refine⟨{Q with heap:=Q.heap.setIfInBounds p.bR d},⟨e.os.trans h.os,e.tape.trans h.tape,e.output.trans h.output,?_,fun c b g=>?_,fun c q b g=>?_⟩,⟨rfl,rfl,rfl,rfl,?_,fun c b=>?_,fun c b=>?_⟩⟩
 ·show w.heap.size≤(Q.heap.setIfInBounds p.bR d).size;rw[aoe,←h.size];exact e.size
 ·show(Q.heap.setIfInBounds p.bR d)[c]? =_;rw[i];split
  ·rename_i a;rw[a];exact m.symm
  ·rename_i a;exact hold c b a (.inl (g.resolve_left a))
 ·have a:c≠p.bR:=(n.eF _ g).2.2.1;unfold World.cell?;simp only;rw[i,ak a,hold c b a (.inr g)]
 ·show Q.heap.size=(Q.heap.setIfInBounds p.bR d).size;rw[aoe]
 ·show Q.heap[c]? =(Q.heap.setIfInBounds p.bR d)[c]?;have b:¬c=p.bR:=b;rw[i,ak b]
 ·have a:c=p.bR:=b;subst a
  show oL _ (Q.heap.setIfInBounds p.bR d)[p.bR]? Q.heap[p.bR]?;rw[i,av rfl,←m];refine(h.shr _ rfl).trans ?_;rcases e.bR with a|⟨vs,us,t,bu,r,s,u,x⟩
  ·exact .inl a
  ·exact .inr ⟨vs,us,t,bu,r,s,u,fun q y=>x q (y.elim (j.rd q) fun z=>.inl (j.wr q z))⟩
def XS(e:Cj p k f){B:Nat}{b:Event}(h:@EK (p.co k f) B b):IP p.Wg p.Own p.bL k B b∧b.loc≠.mark .disable∧b.loc≠.mark .enable:=by
 rcases h with⟨a,wr,rfl,d,cQ⟩|⟨m,rfl,d⟩
 ·refine⟨⟨fun g c=>?_,by rw[y8];simp,by rw[y8];exact cQ⟩,by simp,by simp⟩;rw[y8]at c;simp only[MemAct.touch?,aB]at c;subst c;refine .inl ⟨rfl,?_⟩;rcases d.2 with⟨h1,h2⟩|⟨rfl,h1,h2⟩
  ·by_cases b:a.block=p.bR
   ·cases wr with
    |true=>exact .inl ⟨a,rfl,.inr ⟨b,e.wr _ (h2 b)⟩⟩|false=>
     rcases e.rd _ (h2 b)with h|h
     ·exact .inl ⟨a,rfl,.inr ⟨b,h⟩⟩
     ·exact .inr ⟨⟨a,rfl,.inr ⟨b,h⟩⟩,rfl⟩
   ·exact .inl ⟨a,rfl,.inl (h1.resolve_left b)⟩
  ·exact .inr ⟨⟨a,rfl,.inl h1⟩,rfl⟩
 ·refine⟨⟨fun g c=>?_,?_,?_⟩,?_,?_⟩<;>cases d
  ·cases c
  ·simp[MemAct.ofEvent]
  ·trivial
  ·simp
  ·simp
def XT(i:eL p)(g:Cj p k f)(a:@ff (p.co k f) R Q)(y:p.cF.heap.size≤Q.heap.size)(c:@ff (p.co k f) w' v')(j:@nt (p.co k f) Q v')(h:@rW (p.co k f) R w' S):jW p k Q v' S:=by
 letI:=p.co k f;have A:=i.bR.1;refine⟨c.os.trans (h.os.trans a.os.symm),c.tape.trans (h.tape.trans a.tape.symm),c.output.trans (h.output.trans a.output.symm),by rw[a.size,c.size];exact h.size,fun b l d m=>?_,?_,fun e n=>?_⟩
 ·rw[c.same b d,a.same b d];exact h.jT b (by rw[←a.size];exact l) fun z=>z.elim d m
 ·have:=j p.bR (by omega) rfl;rcases this with e|⟨vs,us,t,bu,o,r,s,u⟩
  ·exact .inl e
  ·exact .inr ⟨vs,us,t,bu,o,r,s,fun q x=>u q fun z=>x (g.wr q z)⟩
 ·have:=XS g (h.evs e n);rw[←c.size]at this;exact this
def gA.XU(j:eL p)(r:Cj p k f){s IK:lu}{g:Goroutine}(h:@dr (p.co k f) P s g w)(A:∀g w v,s g w→@ff (p.co k f) w v→p.cF.heap.size≤v.heap.size→gA P false (dw p k) (p.xA k) (jW p k) IK g v):
 ∀v,@ff (p.co k f) w v→p.cF.heap.size≤v.heap.size→gA P false (dw p k) (p.xA k) (jW p k) IK g v:=by
 letI:=p.co k f;have K:=j.bR.1
 induction h with
 |stop h=>exact fun v l m=>A _ _ _ (h _ (er.refl _)) l m|@step g w m _ h _ B=>
  intro v l t;have u:∀Q,dw p k v Q→∃R g' w' v' S,er w R∧stepG P false g R=.go g' w' S∧stepG P false g Q=.go g' v' S∧ff w' v'∧Q.heap.size≤v'.heap.size∧(p.xA k Q v'→lp R w'∧jW p k Q v' S):=fun Q a=>by
   obtain⟨R,h1,h2⟩:=O8 j r l (by omega) a;obtain⟨g',w',S,⟨n,C⟩,D⟩:=h R h1;obtain⟨v',b,d,E,o⟩:=C Q h2;refine⟨R,g',w',v',S,h1,n,b,d,o,fun e=>?_⟩;have x:lp R w':=fun c y z=>by
    rw[←h2.size]at y;rw[←d.size]at z;have F:=e c y z;refine⟨.inr F,fun i=>?_⟩;have i:c=p.bR:=i;have:=a.size;omega
   exact⟨x,XT j r h2 (gb t a.size) d E (D x)⟩
  refine .step m (fun Q a=>?_) fun Q H I J a i e=>?_
  ·obtain⟨R,g',w',v',S,_,_,b,_,_,q⟩:=u Q a;exact⟨g',v',S,b,fun e=>(q e).2⟩
  ·obtain⟨R,g',w',v',S,h1,n,b,d,o,q⟩:=u Q a;rw[i]at b;cases b;exact B R H w' J h1 n (q e).1 I d (gb t (gb a.size o))
 |@jump g w L h _ _=>exact(h w (er.refl w)).elim
end
end
section
open Conc Conc.Lib RowKit
open Go.ConcR (KK WgAt stA smA rd wr mk DC0 Payload Bk)
open Go.ConcR.Gen Go.ConcN.Gen
open Go.ConcN (WgLive st_flag st_waiters)
section
variable{P:Program}{p:dj}{R:Goroutine→World→Prop}{n:Nat}{g:Goroutine}{w:World}
def XV:zP p w w #[]:=⟨⟨w.drawn,rfl⟩,fun b a=>by simp at a⟩
def iu(h:Goes P true (bS p) DC0 R n g w):fG P p R g w:=
 Way.OS (fun _ _ h=>h) (fun _ _ _ ⟨h1,h2⟩=>by subst h1 h2;exact XV) (Way.vi bS.aH h)
def O9(h:Goes P true (bS p) DC0 (fun g w=>g.status=.running∧∀a,bS p w a→∃g' b,stepG P true g a=.go g' a #[b]∧(Ev0 p.Wg p.bL a.heap.size b∧b.loc≠.mark .disable∧b.loc≠.mark .enable)∧fG P p R g' a) n g w):fG P p R g w:=
 Way.trans bS.refl bS.aH (iu h) fun g w ⟨d,h⟩=>.one d fun a e=>by
  obtain⟨g',b,h1,h2,h3⟩:=h a e;exact⟨g',a,#[b],h1,⟨⟨a.drawn,rfl⟩,fun f c=>by rw[aof]at c;subst c;exact h2⟩,h3⟩
def Pa{m:Mark}{a:Addr}(h:a.block=p.Wg)(cQ:p.Wg<w.heap.size)(c:m=.read a∨m=.write a):Ev0 p.Wg p.bL w.heap.size ⟨.mark m,false,true⟩∧(⟨.mark m,false,true⟩:Event).loc≠.mark .disable∧(⟨.mark m,false,true⟩:Event).loc≠.mark .enable:=by
 rcases c with rfl|rfl<;>exact⟨⟨fun d b=>by simp only[MemAct.ofEvent,MemAct.touch?,aB]at b;subst b;exact .inl ⟨⟨_,rfl,h⟩,by simp⟩,by simp[MemAct.ofEvent],by show a.block<_;omega⟩,by simp,by simp⟩
def Pb(h:p.live w):p.Wg<w.heap.size:=let⟨_,_,a⟩:=h;(dW.1 a).1
end
variable{L:WgLink}{P:Program}{p:dj}{Q:World→Prop}{Next:Goroutine→World→Prop}{j:Nat}{b₀:Frame}{a₀:Act}{ops₀:Array Oper}{i₀:Nat}{rest₀:List Nat}{k₀:List Item}{cs:List Frame}
def XW(H:WgLib P L)(q:eL p)(m:∀w w',bS p w w'→Q w→Q w')(s:∀w,Q w→p.live w→fG P p (IT P p Next j) (G (b₀.at (a₀.put ((ops₀[i₀]?).bind (·.dst)) (.tuple #[])) (.inRegion ops₀ rest₀::k₀)) cs) w)(w:World)(a:Q w∧p.live w):
 fG P p (E6 P p Next j) (G ((base L.add).at ⟨#[.pointer (some ⟨p.Wg,0,none⟩),.int .i64 1]++Array.replicate 115 undef,[]⟩ [.code (body_add L)]) (b₀.at a₀ (.inRegion ops₀ (i₀::rest₀)::k₀)::cs)) w:=by
 lib_facts
 simp only[body_add,addFn,ic,Array.replicate,List.replicate,Bl,ng,jP];have b:∀{w l},Q w∧p.live w→bS p w l→Q l∧p.live l:=fun h r=>⟨m _ _ r h.1,r.live h.2⟩;refine iu (n:=30) ?_
 u_c stepG_seq b a
 u_cond true b a
 u_c stepG_seq b a
 u_c stepG_seq b a
 u_reg b a
 iterate 2 (u_op b a)
 u_c stepG_region_end b a
 u_cond false b a
 u_c stepG_skip b a
 u_c stepG_seq b a
 u_reg b a
 refine Goes.stop (fun l t=>?_);replace a:=b a t;clear t;refine⟨rfl,_,stepG_mark0 .disable (by simp) rfl rfl (by k_ne) rfl H.f_disable (x_disable_n L) (x_disable_b L) (x_disable_x L) (x_disable_f L),iu (n:=60) ?_⟩
 walk_nrm
 u_c stepG_region_end b a
 u_reg b a
 u_defer b a
 u_c stepG_region_end b a
 u_c stepG_seq b a
 u_reg b a
 u_op b a
 u_c stepG_region_end b a
 u_c stepG_seq b a
 u_c stepG_seq b a
 u_reg b a
 u_bub b a
 u_c stepG_region_end b a
 u_cond false b a
 u_c stepG_skip b a
 u_c stepG_seq b a
 u_reg b a
 iterate 6 (u_op b a)
 u_call H.f_uAdd (nm_uAdd L) uAddFn b a
 u_c stepG_seq b a
 u_reg b a
 u_op b a
 u_c stepG_region_end b a
 u_c stepG_seq b a
 u_reg b a
 iterate 4 (u_op b a)
 refine Goes.stop (fun e u=>?_);replace a:=b a u;clear u;refine⟨rfl,fun v E d=>?_⟩;rcases qv v with rfl|F
 ·
   replace d:WgAt p.ty p.Wg e 0 0:=by simpa using d
   have z:(((0:Nat):Int)+1)*KK=KK:=by simp
   rw[z];have B:IntKind.u64.wrap (0+4294967296)=KK:=by decide
   refine⟨_,(stepG_add_atomic rfl rfl (by k_ne) rfl H.f_addU64 (x_addU64_n L) (x_addU64_b L) (x_addU64_x L) .u64 (x_addU64_f L) rfl rfl d.cellSt (d.thaw 0)).trans (by rw[B];rfl),O9 (n:=110) ?_⟩;replace a:Q (e.setCell (stA p.Wg) (.int .u64 KK))∧p.live (e.setCell (stA p.Wg) (.int .u64 KK)):=⟨m _ _ (.of_wg q (aside_setCell e (stA p.Wg) _) ⟨_,_,d.setSt _⟩) a.1,⟨_,_,d.setSt _⟩⟩;clear d;simp only[KK]at a⊢
   walk_nrm
   u_op b a
   u_c stepG_region_end b a
   u_c stepG_ret' b a
   u_leave1 H.f_uAdd b a
   u_op b a
   u_c stepG_region_end b a
   u_c stepG_seq b a
   u_c stepG_seq b a
   u_reg b a
   iterate 4 (u_op b a)
   iterate 2 (u_skip b a)
   u_op b a
   u_c stepG_region_end b a
   u_cond false b a
   u_c stepG_skip b a
   u_c stepG_seq b a
   u_reg b a
   iterate 4 (u_op b a)
   u_c stepG_region_end b a
   u_c stepG_seq b a
   u_reg b a
   iterate 4 (u_op b a)
   u_c stepG_region_end b a
   u_c stepG_seq b a
   u_c stepG_seq b a
   u_reg b a
   iterate 10 (u_op b a)
   u_c stepG_region_end b a
   u_cond true b a
   u_reg b a
   iterate 3 (u_op b a)
   u_conv H.underlying_tPU32 H.room_tU32 (WgLive.cell1 a.2).choose_spec b a
   refine Goes.stop (fun I x=>⟨rfl,fun J y=>?_⟩);replace a:=b (b a x) y;clear x y;refine⟨_,_,stepG_markAt .read (by simp) rfl rfl (by k_ne) rfl H.f_raceRead (x_raceRead_n L) (x_raceRead_b L) (x_raceRead_x L) (x_raceRead_f L) (ad:=⟨p.Wg,1,none⟩) (by simp[Act.eval]),Pa rfl (Pb a.2) (.inl rfl),iu (n:=80) ?_⟩
   walk_nrm
   u_c stepG_region_end b a
   u_c stepG_seq b a
   u_c stepG_seq b a
   u_reg b a
   iterate 2 (u_op b a)
   u_c stepG_region_end b a
   u_cond false b a
   u_c stepG_skip b a
   u_c stepG_seq b a
   u_c stepG_seq b a
   u_reg b a
   iterate 3 (u_op b a)
   iterate 2 (u_skip b a)
   iterate 2 (u_op b a)
   iterate 4 (u_skip b a)
   u_op b a
   u_c stepG_region_end b a
   u_cond false b a
   u_c stepG_skip b a
   u_c stepG_seq b a
   u_c stepG_seq b a
   u_reg b a
   iterate 3 (u_op b a)
   iterate 2 (u_skip b a)
   u_op b a
   u_c stepG_region_end b a
   u_cond true b a
   u_c stepG_ret' b a
   refine Goes.stop (fun C i=>?_);replace a:=b a i;clear i;refine⟨rfl,_,stepG_unwind_entry (v:=.tuple #[]) (evs:=#[mk .enable]) rfl H.f_enable (x_enable_n L) (x_enable_b L) (x_enable_x L) (x_enable_f L) (by simp[Extern.Race.none_]) (by simp[mk]) (by simp[mk]),?_⟩;refine Way.trans bS.refl bS.aH (Stop:=fun g w=>g=(G (b₀.at (a₀.put ((ops₀[i₀]?).bind (·.dst)) (.tuple #[])) (.inRegion ops₀ rest₀::k₀)) cs)∧Q w∧p.live w) (iu (n:=3) ?_) (fun g w h=>by obtain⟨rfl,h⟩:=h;exact s w h.1 h.2)
   u_leave0 H.f_add b a
   exact Goes.stop fun D o=>⟨rfl,b a o⟩
 ·
   obtain⟨c,k⟩:∃c:Int,c=(v:Int)+1:=⟨_,rfl⟩;obtain⟨S,f⟩:∃S:Int,S=c*KK:=⟨_,rfl⟩;have A:IntKind.u64.wrap ((v:Int)*KK+4294967296)=S:=by rw[IntKind.wrap_u64,f,k];simp only[KK];omega
   rw[←k,←f];have K:S/4294967296=c:=by rw[f];simp only[KK];omega
   have M:bits .and .u64 S 2147483648=0:=by rw[f,k];have:=st_flag (v+1) 0 (by omega) (by omega);simpa[KK]using this
   have cm:bits .and .u64 S 2147483647=0:=by rw[f,k];have:=st_waiters (v+1) 0 (by omega) (by omega);simpa[KK]using this
   have N:IntKind.i32.wrap c=c:=by rw[IntKind.wrap_i32];omega
   have O:1<c:=by omega
   have T:(c==1)=false:=by simp;omega
   have U:decide (c=1)=false:=jQ (by omega);have V:decide (c<0)=false:=jQ (by omega);have W:decide (0<c)=true:=bl (by omega);have X:(c==0)=false:=by simp;omega
   have Y:decide (c=0)=false:=jQ (by omega);refine⟨_,(stepG_add_atomic rfl rfl (by k_ne) rfl H.f_addU64 (x_addU64_n L) (x_addU64_b L) (x_addU64_x L) .u64 (x_addU64_f L) rfl rfl d.cellSt (d.thaw 0)).trans (by rw[A];rfl),iu (n:=160) ?_⟩;replace a:Q (e.setCell (stA p.Wg) (.int .u64 S))∧p.live (e.setCell (stA p.Wg) (.int .u64 S)):=⟨m _ _ (.of_wg q (aside_setCell e (stA p.Wg) _) ⟨_,_,d.setSt _⟩) a.1,⟨_,_,d.setSt _⟩⟩;clear d f k A
   walk_nrm
   u_op b a
   u_c stepG_region_end b a
   u_c stepG_ret' b a
   u_leave1 H.f_uAdd b a
   u_op b a
   u_c stepG_region_end b a
   u_c stepG_seq b a
   u_c stepG_seq b a
   u_reg b a
   iterate 4 (u_op b a)
   iterate 2 (u_skip b a)
   u_op b a
   u_c stepG_region_end b a
   u_cnd false b a
   u_c stepG_skip b a
   u_c stepG_seq b a
   u_reg b a
   iterate 4 (u_op b a)
   u_c stepG_region_end b a
   u_c stepG_seq b a
   u_reg b a
   iterate 4 (u_op b a)
   u_c stepG_region_end b a
   u_c stepG_seq b a
   u_c stepG_seq b a
   u_reg b a
   iterate 10 (u_op b a)
   u_c stepG_region_end b a
   u_cnd false b a
   u_c stepG_skip b a
   u_c stepG_seq b a
   u_c stepG_seq b a
   u_reg b a
   iterate 2 (u_op b a)
   u_c stepG_region_end b a
   u_cnd false b a
   u_c stepG_skip b a
   u_c stepG_seq b a
   u_c stepG_seq b a
   u_reg b a
   iterate 3 (u_op b a)
   iterate 2 (u_skip b a)
   iterate 2 (u_op b a)
   iterate 4 (u_skip b a)
   u_op b a
   u_c stepG_region_end b a
   u_cnd false b a
   u_c stepG_skip b a
   u_c stepG_seq b a
   u_c stepG_seq b a
   u_reg b a
   iterate 3 (u_op b a)
   iterate 2 (u_skip b a)
   u_op b a
   u_c stepG_region_end b a
   u_cnd true b a
   u_c stepG_ret' b a
   refine Goes.stop (fun C i=>?_);replace a:=b a i;clear i;refine⟨rfl,_,stepG_unwind_entry (v:=.tuple #[]) (evs:=#[mk .enable]) rfl H.f_enable (x_enable_n L) (x_enable_b L) (x_enable_x L) (x_enable_f L) (by simp[Extern.Race.none_]) (by simp[mk]) (by simp[mk]),?_⟩;refine Way.trans bS.refl bS.aH (Stop:=fun g w=>g=(G (b₀.at (a₀.put ((ops₀[i₀]?).bind (·.dst)) (.tuple #[])) (.inRegion ops₀ rest₀::k₀)) cs)∧Q w∧p.live w) (iu (n:=3) ?_) (fun g w h=>by obtain⟨rfl,h⟩:=h;exact s w h.1 h.2)
   u_leave0 H.f_add b a
   exact Goes.stop fun D o=>⟨rfl,b a o⟩
end
section
open Conc Conc.Lib RowKit
open Go.ConcR (KK WgAt stA smA rd wr mk DC0 Payload Bk)
open Go.ConcR.Gen Go.ConcN.Gen
open Go.ConcN (WgLive st_flag st_waiters)
variable{L:WgLink}{P:Program}{p:dj}{Q:World→Prop}{Next:Goroutine→World→Prop}{j:Nat}{b₀:Frame}{a₀:Act}{ops₀:Array Oper}{i₀:Nat}{rest₀:List Nat}{k₀:List Item}{cs:List Frame}
def Ck(L:WgLink)(p:dj)(Q:World→Prop)(c:Frame)(cs:List Frame)(g:Goroutine)(w:World):Prop:=
 ∃T:Array Value,g=G ((base L.wait).at ⟨T,[]⟩ [.code (L7 L),.inLoop (L7 L),.inBlock 0]) (c::cs)∧T.size=84∧T[0]? =some (.pointer (some ⟨p.Wg,0,none⟩))∧Q w∧p.live w
def XY{c:Frame}{g:Goroutine}{w:World}(h:Ck L p Q c cs g w):g.status=.running:=by obtain⟨T,rfl,_⟩:=h;rfl
def Pc(P:Program)(Q:World→Prop)(r:Goroutine)(g:Goroutine)(w:World):Prop:=∃n,Goes P true AtRel DC0 (fun g w=>g=r∧Q w) n g w
def XZ(b:∀w w',bS p w w'→Q w→Q w'){w a:World}(h:Q w)(r:AtRel w a):Q a:=by obtain⟨d,rfl⟩:=r;exact b _ _ (bS.at w d) h
def X0(H:WgLib P L)(x:eL p)(s:∀w w',bS p w w'→Q w→Q w')(g:Goroutine)(w:World)(h:Ck L p Q (b₀.at a₀ (.inRegion ops₀ (i₀::rest₀)::k₀)) cs g w):
 fG P p (qD P p (Pc P Q (G (b₀.at (a₀.put ((ops₀[i₀]?).bind (·.dst)) (.tuple #[])) (.inRegion ops₀ rest₀::k₀)) cs)) (Ck L p Q (b₀.at a₀ (.inRegion ops₀ (i₀::rest₀)::k₀)) cs)) g w:=by
 lib_facts
 have b:∀{w e},Q w∧p.live w→bS p w e→Q e∧p.live e:=fun h r=>⟨s _ _ r h.1,r.live h.2⟩;have c:∀{w e},Q w→AtRel w e→Q e:=fun h r=>XZ s h r;obtain⟨T,rfl,C,y,a⟩:=h;obtain⟨K,M,N,O,gI,R,U,V,W,X,Y,Z,aa,ab,ae,af,IY,ag,ah,ai,aj,ak,al,am,an,ao,ap,aq,ar,au,av,aw,ax,az,aA,aC,aD,aE,aF,aG,aH,aI,aJ,aK,aL,aM,aN,aO,aP,aQ,aR,aS,aT,aU,aV,aW,aX,aY,aZ,a0,a1,a2,a3,a4,a5,a6,a7,a8,a9,ba,bb,bc,bd,bf,bg,bh,bi,bj,bk,bm,bn,bo,bp,bq,rfl⟩:=array84 T C;simp only[rL,ta,aB]at y;subst y;refine iu (n:=60) ?_;simp only[L7,body_wait,waitFn,ic]
 u_c stepG_block b a
 u_c stepG_seq b a
 u_reg b a
 iterate 3 (u_op b a)
 u_call H.f_uLoad (nm_uLoad L) uLoadFn b a
 u_c stepG_seq b a
 u_reg b a
 u_op b a
 u_c stepG_region_end b a
 u_c stepG_seq b a
 u_reg b a
 iterate 3 (u_op b a)
 refine Goes.stop (fun e z=>?_);replace a:=b a z;clear z;refine⟨rfl,fun v br d=>?_⟩;rcases qv v with rfl|bs
 ·
   replace d:WgAt p.ty p.Wg e 0 0:=by simpa using d
   refine⟨_,stepG_load_atomic (v:=0) rfl rfl (by k_ne) rfl H.f_loadU64 (x_loadU64_n L) (x_loadU64_b L) (x_loadU64_x L) .u64 (x_loadU64_f L) rfl d.cellSt,fun _=>iu (n:=80) ?_,fun h=>absurd rfl h⟩;clear d
   walk_nrm
   u_op b a
   u_c stepG_region_end b a
   u_c stepG_ret' b a
   u_leave1 H.f_uLoad b a
   u_op b a
   u_c stepG_region_end b a
   u_c stepG_seq b a
   u_reg b a
   iterate 4 (u_op b a)
   u_c stepG_region_end b a
   u_c stepG_seq b a
   u_reg b a
   iterate 4 (u_op b a)
   u_c stepG_region_end b a
   u_c stepG_seq b a
   u_c stepG_seq b a
   u_reg b a
   iterate 2 (u_op b a)
   u_c stepG_region_end b a
   u_cond true b a
   u_c stepG_seq b a
   u_cond true b a
   u_c stepG_seq b a
   u_reg b a
   refine Goes.stop (fun D k=>?_);replace a:=b a k;clear k;refine⟨rfl,_,stepG_mark0 .enable (by simp) rfl rfl (by k_ne) rfl H.f_enable (x_enable_n L) (x_enable_b L) (x_enable_x L) (x_enable_f L),iu (n:=20) ?_⟩
   walk_nrm
   u_c stepG_region_end b a
   u_reg b a
   u_op b a
   u_conv H.underlying_tWgP H.room_tWg (WgLive.cell0 a.2).choose_spec b a
   refine Goes.stop (fun E l=>?_);replace a:=b a l;clear l;refine⟨rfl,_,stepG_markAt .acquire (by simp) rfl rfl (by k_ne) rfl H.f_acquire (x_acquire_n L) (x_acquire_b L) (x_acquire_x L) (x_acquire_f L) (by simp[Act.eval,stA]),fun _=>⟨60,?_⟩⟩;replace a:=a.1
   walk_nrm
   u_c stepG_region_end c a
   u_c stepG_seq c a
   u_c stepG_seq c a
   u_reg c a
   iterate 8 (u_op c a)
   iterate 2 (u_skip c a)
   u_op c a
   u_c stepG_region_end c a
   u_cond false c a
   u_c stepG_skip c a
   u_c stepG_ret' c a
   u_leave0 H.f_wait c a
   exact Goes.stop fun F t=>⟨rfl,c a t⟩
 ·
   obtain⟨S,f⟩:∃S:Int,(v:Int)*KK=S:=⟨_,rfl⟩;have bt:S/4294967296=(v:Int):=by rw[←f];simp only[KK];omega
   have bu:bits .and .u64 S 2147483648=0:=by rw[←f];have:=st_flag v 0 (by omega) (by omega);simpa[KK]using this
   have cm:bits .and .u64 S 2147483647=0:=by rw[←f];have:=st_waiters v 0 (by omega) (by omega);simpa[KK]using this
   have bv:IntKind.i32.wrap (v:Int)=(v:Int):=by rw[IntKind.wrap_i32];omega
   have w1:IntKind.u64.wrap (S+1)=S+1:=by rw[IntKind.wrap_u64,←f];simp only[KK];omega
   have bw:decide ((v:Int)<0)=false:=jQ (by omega);have bx:decide (0<(v:Int))=true:=bl (by omega);have bz:((v:Int)==0)=false:=by simp;omega
   have bA:decide ((v:Int)=0)=false:=jQ (by omega);rw[f]at d;refine⟨_,stepG_load_atomic (v:=S) rfl rfl (by k_ne) rfl H.f_loadU64 (x_loadU64_n L) (x_loadU64_b L) (x_loadU64_x L) .u64 (x_loadU64_f L) rfl d.cellSt,fun I=>absurd I (by omega),fun _=>iu (n:=80) ?_⟩;clear d
   walk_nrm
   u_op b a
   u_c stepG_region_end b a
   u_c stepG_ret' b a
   u_leave1 H.f_uLoad b a
   u_op b a
   u_c stepG_region_end b a
   u_c stepG_seq b a
   u_reg b a
   iterate 4 (u_op b a)
   u_c stepG_region_end b a
   u_c stepG_seq b a
   u_reg b a
   iterate 4 (u_op b a)
   u_c stepG_region_end b a
   u_c stepG_seq b a
   u_c stepG_seq b a
   u_reg b a
   iterate 2 (u_op b a)
   u_c stepG_region_end b a
   u_cnd false b a
   u_c stepG_skip b a
   u_c stepG_seq b a
   u_reg b a
   iterate 6 (u_op b a)
   u_call H.f_uCas (nm_uCas L) uCasFn b a
   u_c stepG_seq b a
   u_reg b a
   u_op b a
   u_c stepG_region_end b a
   u_c stepG_seq b a
   u_reg b a
   iterate 5 (u_op b a)
   refine Goes.stop (fun u A=>?_);replace a:=b a A;clear A;refine⟨rfl,fun v' bB d=>⟨fun B=>?_,fun B=>?_⟩⟩
   ·
     subst B;rw[f]at d⊢;refine⟨_,(stepG_cas_hit (v:=S) (n:=S+1) rfl rfl (by k_ne) rfl H.f_casU64 (x_casU64_n L) (x_casU64_b L) (x_casU64_x L) .u64 (x_casU64_f L) rfl rfl rfl d.cellSt (d.thaw 0)).trans (by rfl),O9 (n:=80) ?_⟩;replace a:Q (u.setCell (stA p.Wg) (.int .u64 (S+1)))∧p.live (u.setCell (stA p.Wg) (.int .u64 (S+1))):=⟨s _ _ (.of_wg x (aside_setCell u (stA p.Wg) _) ⟨_,_,d.setSt _⟩) a.1,⟨_,_,d.setSt _⟩⟩;clear d
     walk_nrm
     u_op b a
     u_c stepG_region_end b a
     u_c stepG_ret' b a
     u_leave1 H.f_uCas b a
     u_c stepG_region_end b a
     u_cond true b a
     u_c stepG_seq b a
     u_c stepG_seq b a
     u_reg b a
     iterate 4 (u_op b a)
     u_c stepG_region_end b a
     u_cond true b a
     u_reg b a
     iterate 3 (u_op b a)
     u_conv H.underlying_tPU32 H.room_tU32 (WgLive.cell1 a.2).choose_spec b a
     refine Goes.stop (fun m i=>⟨rfl,fun J o=>?_⟩);replace a:=b (b a i) o;clear i o;refine⟨_,_,stepG_markAt .write (by simp) rfl rfl (by k_ne) rfl H.f_raceWrite (x_raceWrite_n L) (x_raceWrite_b L) (x_raceWrite_x L) (x_raceWrite_f L) (ad:=⟨p.Wg,1,none⟩) (by simp[Act.eval]<;>rfl),Pa rfl (Pb a.2) (.inr rfl),iu (n:=60) ?_⟩
     walk_nrm
     u_c stepG_region_end b a
     u_c stepG_seq b a
     u_reg b a
     u_op b a
     u_c stepG_region_end b a
     u_c stepG_seq b a
     u_c stepG_seq b a
     u_reg b a
     iterate 4 (u_op b a)
     u_skip b a
     u_op b a
     u_c stepG_region_end b a
     u_cond false b a
     u_c stepG_skip b a
     u_c stepG_seq b a
     u_reg b a
     iterate 4 (u_op b a)
     refine Goes.stop (fun m i=>?_);replace a:=b a i;clear i;refine⟨rfl,rfl,fun⟨ay,d⟩=>stepG_semacquire_wait rfl rfl rfl H.f_semacquire (x_semacquire_n L) (x_semacquire_b L) (x_semacquire_x L) (x_semacquire_f L) (by simp[Act.eval,smA]) d.cellSm,fun q=>?_⟩;refine⟨_,(stepG_semacquire (n:=1) rfl rfl (by k_ne) rfl H.f_semacquire (x_semacquire_n L) (x_semacquire_b L) (x_semacquire_x L) (x_semacquire_f L) (by simp[Act.eval,smA]) q.cellSm (by k_ne) (q.thaw 1)).trans (by rfl),iu (n:=40) ?_⟩;replace a:Q (m.setCell (smA p.Wg) (.int .u32 0))∧p.live (m.setCell (smA p.Wg) (.int .u32 0)):=⟨s _ _ (.of_wg x (aside_setCell m (smA p.Wg) _) ⟨_,_,q.setSm 0⟩) a.1,⟨_,_,q.setSm 0⟩⟩;clear q
     walk_nrm
     u_c stepG_region_end b a
     u_c stepG_seq b a
     u_reg b a
     iterate 3 (u_op b a)
     u_call H.f_uLoad (nm_uLoad L) uLoadFn b a
     u_c stepG_seq b a
     u_reg b a
     u_op b a
     u_c stepG_region_end b a
     u_c stepG_seq b a
     u_reg b a
     iterate 3 (u_op b a)
     refine Goes.stop (fun J o=>?_);replace a:=b a o;clear o;refine⟨rfl,fun d=>⟨_,stepG_load_atomic (v:=0) rfl rfl (by k_ne) rfl H.f_loadU64 (x_loadU64_n L) (x_loadU64_b L) (x_loadU64_x L) .u64 (x_loadU64_f L) rfl d.cellSt,iu (n:=40) ?_⟩⟩;clear d
     walk_nrm
     u_op b a
     u_c stepG_region_end b a
     u_c stepG_ret' b a
     u_leave1 H.f_uLoad b a
     iterate 2 (u_op b a)
     u_c stepG_region_end b a
     u_c stepG_seq b a
     u_cond true b a
     u_c stepG_seq b a
     u_reg b a
     refine Goes.stop (fun D k=>?_);replace a:=b a k;clear k;refine⟨rfl,_,stepG_mark0 .enable (by simp) rfl rfl (by k_ne) rfl H.f_enable (x_enable_n L) (x_enable_b L) (x_enable_x L) (x_enable_f L),iu (n:=20) ?_⟩
     walk_nrm
     u_c stepG_region_end b a
     u_reg b a
     u_op b a
     u_conv H.underlying_tWgP H.room_tWg (WgLive.cell0 a.2).choose_spec b a
     refine Goes.stop (fun E l=>?_);replace a:=b a l;clear l;refine⟨rfl,_,stepG_markAt .acquire (by simp) rfl rfl (by k_ne) rfl H.f_acquire (x_acquire_n L) (x_acquire_b L) (x_acquire_x L) (x_acquire_f L) (by simp[Act.eval,stA]),fun _=>⟨60,?_⟩⟩;replace a:=a.1
     walk_nrm
     u_c stepG_region_end c a
     u_c stepG_seq c a
     u_c stepG_seq c a
     u_reg c a
     u_op c a
     u_c stepG_region_end c a
     u_cond false c a
     u_c stepG_skip c a
     u_c stepG_ret' c a
     u_leave0 H.f_wait c a
     exact Goes.stop fun F t=>⟨rfl,c a t⟩
   ·
     refine⟨_,stepG_cas_miss (v:=(v':Int)*KK) (old:=S) (n:=S+1) rfl rfl (by k_ne) rfl H.f_casU64 (x_casU64_n L) (x_casU64_b L) (x_casU64_x L) .u64 (x_casU64_f L) rfl rfl rfl d.cellSt (d.thaw 0) (by rw[←f];simp only[KK];omega),iu (n:=20) ?_⟩;clear d
     walk_nrm
     u_op b a
     u_c stepG_region_end b a
     u_c stepG_ret' b a
     u_leave1 H.f_uCas b a
     u_c stepG_region_end b a
     u_cond false b a
     u_c stepG_skip b a
     u_c stepG_inBlock b a
     u_c stepG_inLoop b a
     exact Goes.stop (fun m i=>⟨_,rfl,by simp,by simp,b a i⟩)
def waitStartN(H:WgLib P L)(e:∀w w',bS p w w'→Q w→Q w')(w:World)(a:Q w∧p.live w):
 fG P p (xC P p (Ck L p Q (b₀.at a₀ (.inRegion ops₀ (i₀::rest₀)::k₀)) cs)) (G ((base L.wait).at ⟨#[.pointer (some ⟨p.Wg,0,none⟩)]++Array.replicate 83 undef,[]⟩ [.code (body_wait L)]) ((b₀.at a₀ (.inRegion ops₀ (i₀::rest₀)::k₀))::cs)) w:=by
 lib_facts
 have b:∀{w c},Q w∧p.live w→bS p w c→Q c∧p.live c:=fun h r=>⟨e _ _ r h.1,r.live h.2⟩;refine iu (n:=3) ?_;simp only[body_wait,waitFn,ic]
 u_c stepG_seq b a
 u_cond true b a
 u_reg b a
 refine Goes.stop (fun c d=>?_);replace a:=b a d;clear d;refine⟨rfl,_,stepG_mark0 .disable (by simp) rfl rfl (by k_ne) rfl H.f_disable (x_disable_n L) (x_disable_b L) (x_disable_x L) (x_disable_f L),iu (n:=3) ?_⟩
 walk_nrm
 u_c stepG_region_end b a
 u_c stepG_block b a
 u_c stepG_loop b a
 exact Goes.stop (fun g f=>⟨_,rfl,by simp,by simp,b a f⟩)
end
section
open Conc Conc.Lib RowKit
open Go.ConcR (KK WgAt stA smA rd wr mk DC0 Payload Bk)
open Go.ConcR.Gen Go.ConcN.Gen
open Go.ConcN (WgLive RW DWs AtR0 AtK1 Has)
def X1{P:Program}{f:World→World→Prop}{D:World→World→Array Event→Prop}{S:Goroutine→World→Prop}{ev dO:Event}(i:∀w,f w w)(s:ev≠dO)(q:∀g w,S g w→∃g',stepG P false g w=.go g' w #[ev])(t:∀w w',¬D w w' #[dO]):
 ∀{m n:Nat} {g:Goroutine} {w:World},Goes P false f DC0 (fun g w=>∃g' k,stepG P false g w=.go g' w #[ev]∧Goes P false f DC0 (fun g w=>∃g',stepG P false g w=.go g' w #[dO]) k g' w) m g w→Goes P false f D S n g w→Goes P false f DC0 S m g w:=by
 have last:∀{k n:Nat} {g:Goroutine} {w:World},Goes P false f DC0 (fun g w=>∃g',stepG P false g w=.go g' w #[dO]) k g w→¬Goes P false f D S n g w:=by
  intro k
  induction k with
  |zero=>
   intro n g w h a;obtain⟨g',l⟩:=h w (i w);have j:¬S g w:=fun o=>by obtain⟨_,d⟩:=q _ _ o;rw[l]at d;simp only[GStep.go.injEq]at d;have:=d.2.2;simp at this;exact s this.symm
   cases n with
   |zero=>exact j (a w (i w))|succ n=>
    rcases a with a|⟨_,a⟩
    ·exact j (a w (i w))
    ·have:=a w (i w);rw[l]at this;exact t _ _ this.1
  |succ k p=>
   intro n g w h a;rcases h with h|⟨_,h⟩
   ·have:Goes P false f DC0 (fun g w=>∃g',stepG P false g w=.go g' w #[dO]) k g w:=Goes.stop h;exact p this a
   ·have h1:=h w (i w);cases e:stepG P false g w with
    |go g' w' u=>
     rw[e]at h1;obtain⟨⟨rfl,rfl⟩,h2⟩:=h1;have j:¬S g w':=fun o=>by obtain⟨_,d⟩:=q _ _ o;rw[e]at d;simp at d
     cases n with
     |zero=>exact j (a w' (i w'))|succ n=>
      rcases a with a|⟨_,a⟩
      ·exact j (a w' (i w'))
      ·have:=a w' (i w');rw[e]at this;exact p h2 this.2
    |_=>rw[e]at h1;exact h1.elim
 intro m
 induction m with
 |zero=>
  intro n g w h a;refine fun c b=>?_;obtain⟨g',k,l,r⟩:=h c b;cases n with
  |zero=>exact a c b|succ n=>
   rcases a with a|⟨_,a⟩
   ·exact a c b
   ·have:=a c b;rw[l]at this;exact(last r this.2).elim
 |succ m p=>
  intro n g w h a;rcases h with h|⟨v,h⟩
  ·refine .inl fun c b=>?_;obtain⟨g',k,l,r⟩:=h c b;cases n with
   |zero=>exact a c b|succ n=>
    rcases a with a|⟨_,a⟩
    ·exact a c b
    ·have:=a c b;rw[l]at this;exact(last r this.2).elim
  ·refine .inr ⟨v,fun c b=>?_⟩;have h1:=h c b;cases e:stepG P false g c with
   |go g' w' u=>
    rw[e]at h1;obtain⟨⟨rfl,rfl⟩,h2⟩:=h1;have j:¬S g w':=fun o=>by obtain⟨_,d⟩:=q _ _ o;rw[e]at d;simp at d
    refine⟨⟨rfl,rfl⟩,?_⟩;cases n with
    |zero=>exact(j (a w' b)).elim|succ n=>
     rcases a with a|⟨_,a⟩
     ·exact(j (a w' b)).elim
     ·have:=a w' b;rw[e]at this;exact p h2 this.2
   |_=>rw[e]at h1;exact h1.elim
variable [Payload]{L:WgLink}{P:Program}{Q C n k:Nat}{val:Value}{T:Frame}{U:Act}{R:Array Oper}{V:Nat}{W:List Nat}{X:List Item}{cs:List Frame}{qt:Nat}
def Fj(H:WgLib P L)(c:QuitsD P qt 0 (G (T.at (U.put ((R[V]?).bind (·.dst)) (.tuple #[])) (.inRegion R W::X)) cs))(w:World)(a:WgLive L.tWg Q w∧Has C k val w):
 Goes P false (RW L.tWg Q C n 0 k) DC0 (AtR0 P L.tWg Q C n 0 (k+1) val) 20 (G ((base L.add).at ⟨#[.pointer (some ⟨Q,0,none⟩),.int .i64 (-1),undef,undef,undef,undef,undef,undef,undef,undef,undef,undef,undef,undef,undef,undef,undef,undef,undef,undef,undef,undef,undef,undef,undef,undef,undef,undef,undef,undef,undef,undef,undef,undef,undef,undef,undef,undef,undef,undef,undef,undef,undef,undef,undef,undef,undef,undef,undef,undef,undef,undef,undef,undef,undef,undef,undef,undef,undef,undef,undef,undef,undef,undef,undef,undef,undef,undef,undef,undef,undef,undef,undef,undef,undef,undef,undef,undef,undef,undef,undef,undef,undef,undef,undef,undef,undef,undef,undef,undef,undef,undef,undef,undef,undef,undef,undef,undef,undef,undef,undef,undef,undef,undef,undef,undef,undef,undef,undef,undef,undef,undef,undef,undef,undef,undef,undef],[]⟩ [.code (body_add L)]) (T.at U (.inRegion R (V::W)::X)::cs)) w:=by
 lib_facts
 have cC:=addNegN (Own:=fun _ _=>False) (Rd:=fun _ _=>False) (Low:=0) (k:=k+1) (n:=n) (C:=C) (val:=val) H c w a;refine X1 (ev:=mk (.releaseMerge (stA Q))) (dO:=mk .disable) rK (by simp[mk]) (fun g w h=>let⟨_,_,g',d,_⟩:=h;⟨g',d⟩) (fun w w' h=>(h.2 (mk .disable) (by simp)).2.1 rfl) ?_ cC;clear cC;simp only[body_add,addFn,ic]
 u_c stepG_seq kn_rely a
 u_cond true kn_rely a
 u_c stepG_seq kn_rely a
 u_c stepG_seq kn_rely a
 u_reg kn_rely a
 iterate 2 (u_op kn_rely a)
 u_c stepG_region_end kn_rely a
 u_cond true kn_rely a
 u_reg kn_rely a
 u_op kn_rely a
 u_conv H.underlying_tWgP H.room_tWg (WgLive.cell0 a.1).choose_spec kn_rely a
 refine Goes.stop (fun e b=>?_);replace a:=kn_rely a b;clear b;refine⟨_,5,stepG_markAt .releaseMerge (by simp) rfl rfl (by k_ne) rfl H.f_relMerge (x_relMerge_n L) (x_relMerge_b L) (x_relMerge_x L) (x_relMerge_f L) (by simp[Act.eval,stA]),?_⟩
 walk_nrm
 u_c stepG_region_end kn_rely a
 u_c stepG_seq kn_rely a
 u_reg kn_rely a
 refine Goes.stop (fun f i=>?_);exact⟨_,stepG_mark0 .disable (by simp) rfl rfl (by k_ne) rfl H.f_disable (x_disable_n L) (x_disable_b L) (x_disable_x L) (x_disable_f L)⟩
def X2(H:WgLib P L)(b:QuitsD P qt 0 (G (T.at (U.put ((R[V]?).bind (·.dst)) (.tuple #[])) (.inRegion R W::X)) cs))(w:World)(a:WgLive L.tWg Q w∧Has C k val w):
 Goes P false (RW L.tWg Q C n 0 k) DC0 (AtR0 P L.tWg Q C n 0 (k+1) val) 23 (G ((base L.done).at ⟨#[.pointer (some ⟨Q,0,none⟩),undef,undef,undef],[]⟩ [.code (body_done L)]) (T.at U (.inRegion R (V::W)::X)::cs)) w:=by
 lib_facts
 have cC:=@Fj _ L P Q C n k val;simp only[body_done,body_add,doneFn,addFn,ic]at cC⊢
 u_reg kn_rely a
 u_op kn_rely a
 u_call H.f_add (nm_add L) addFn kn_rely a
 refine cC (qt:=qt+3) H ?_ _ a
 q_c stepG_region_end
 q_c stepG_end
 exact QuitsD.leave0 rfl rfl H.f_done rfl b
end
section
open Conc Conc.Lib
open Go.ConcR (KK WgAt stA smA rd wr mk DC0 Payload Bk)
open Go.ConcR.Gen
open Go.ConcN (WgLive CTag WD)
section
variable{P:Program}{U:Machine}{V:FuncId}{p:dj}{W:Loc→Prop}{R:Array Goroutine}{a Q:Goroutine}{w w':World}{sl:Option (Nat×Nat)}{T:Trace}{q:Nat→Nat}{Next Anch:Goroutine→World→Prop}
def FS.start:FS p 0 p.cF:=⟨rfl,rfl,rfl,aX _,fun _ _ _ _=>rfl,.refl _ _ _⟩
def ir.crowd(h:ir P U V p.Sh R a w sl T q)(E:a.frame.fn=V){m:Nat}{d:Option (Nat×Nat)}(z:stepT P (crowd R w sl)=runT P (crowd R (w.at m) d) 0)(A:stepG P true a (w.at m)=.go Q p.cF #[])(B:eL p)
 (F:p.aY=R.size) (H:p.Wg=w.heap.size) (n:w.heap.size≤p.cF.heap.size) (C:WgAt p.ty p.Wg p.cF 0 0) (an:0<p.N) (f:oP P p Anch p.N Q p.cF)
 (I:∀k c,k<p.N→p.cF.heap.size≤c→zV P U (p.aY+k) c→p.mN k c) (K:∀g w,Anch g w→g.status=.running) (L:∀g w,Anch g w→fG P p (qD P p Next Anch) g w):
 ∃o Q w' d s t,ir P U V (fun l=>p.Sh l∨pQ p.Wg l) o Q w' d s t∧Next Q w'∧(∀k,k<p.N→p.kQ k w')∧FS p p.N w':=by
 obtain⟨J,M⟩:=h.run;have O:=runT_crowd_go (P:=P) (sl:=d) (i:=0) h.h0 (show stepG P (0==0) a (w.at m)=_ from A);obtain⟨h1,X⟩:=h.step z A n (fun e u=>by simp at u);have Y:fF p.Sh p.Wg p.Own p.bL p.aY 0 p.cF.heap.size 0 (aA.pR fun _=>⟨0,0,0⟩) (aA.vl fun _=>⟨0,0,0⟩) (T++MemOp.ofEvents 0 a.frame.fn a.frame.place #[]):=by
  have:=fF.main (g6:=aA.pR fun _=>⟨0,0,0⟩) (rel:=aA.vl fun _=>⟨0,0,0⟩) B.vk (fF.IR h.vm (pJ H.symm)) n (fn:=a.frame.fn) (pos:=a.frame.place) (es:=#[]) (fun e u=>by simp at u);simpa[deafBehind]using this
 obtain⟨r,Z⟩:∃r,p.N=r+1:=⟨p.N-1,by omega⟩;have f:fG P p (E6 P p (oP P p Anch r) (p.N-(r+1))) Q p.cF:=by rw[Z]at f;exact f
 obtain⟨aa,ab⟩:=f.iK;have ad:((R.map (woken P a Q p.cF)).setIfInBounds 0 Q).size=p.aY+0:=by simp[F]
 obtain⟨ae,o,b,w',d,s,t,af,ao,ag,ah,ai,aj,ak,pS⟩:=crowd_runs B I K L _ ⟨J+1,_,Q,p.cF,d,_,q,0,fun _=>⟨0,0,0⟩,fun _=>.leaf,.sp r 5,aa,0,1,0,0,M.step (z.trans O) n,h1.h0,
  ⟨ad,fun k v=>absurd v (ox _),⟨fun i g al _ am=>h1.nw.old i g al am,h1.nw.above⟩,Y,fun k v=>absurd v (ox _),FS.start⟩,
  by have:=fh.skd (P:=P) (p:=p) (Next:=Next) (Anch:=Anch) (r:=r) (by omega) ab
     rwa[show p.N-(r+1)=0 by omega]at this,C,by
   have:=ConcN.Mode.opn (j:=0) (D:=fun _=>⟨0,0,0⟩) (tag:=.sp r 5) trivial (fun i hi=>absurd hi (ox _)) (fun vs e=>by cases e);simpa[ConcN.Vc,ConcN.pend,ConcN.sumTo]using this,rfl⟩
 refine⟨o,b,w',d,s,t,⟨⟨ae,af⟩,ag,ah,ai,fun l x=>?_⟩,aj,ak,pS⟩;have ap:=pS.size;rcases x with x|⟨y,rfl,aq⟩
 ·obtain⟨y,e,h2,h3⟩:=h.oQ l x;exact⟨y,e,by omega,h3⟩
 ·have:=(dW.1 C).1;exact⟨y,rfl,by omega,(X _ (by omega) (by omega)).2 E⟩
end
section
variable{S:WgLink}{P:Program}{p:dj}{k:Nat}{val:Value}{b₀:Frame}{a₀:Act}{ops₀:Array Oper}{i₀:Nat}{rest₀:List Nat}{k₀:List Item}{cs:List Frame}{qt:Nat}{w:World}
def jW.idle(w:World):jW p k w w #[]:=⟨rfl,rfl,rfl,aX _,fun _ _ _ _=>rfl,.refl _ _ _,by simp⟩
def Way.X3{main:Bool}{m R':Rel}{D D':vh}{n:lu}{g:Goroutine}{w:World}(aq:World→Prop)(i:∀a b,aq a→R' a b→m a b)(l:∀a b,R' a b→aq a→aq b)(r:∀a b e,D a b e→aq a→aq b)(s:∀a b e,aq a→D a b e→D' a b e)(h:Way P main m D n g w)(b7:aq w):
 Way P main R' D' (fun g w=>n g w∧aq w) g w:=by
 induction h with
 |stop h=>exact .stop fun f c=>⟨h f (i _ _ b7 c),l _ _ c b7⟩|step t h _ u=>
  refine .step t (fun f c=>?_) fun f g' w' e c j=>?_
  ·obtain⟨g',w',e,j,d⟩:=h f (i _ _ b7 c);exact⟨g',w',e,j,s _ _ _ (l _ _ c b7) d⟩
  ·obtain⟨v,x,y,o,d⟩:=h f (i _ _ b7 c);rw[j]at o;cases o;exact u f g' w' e (i _ _ b7 c) j (r _ _ _ d (l _ _ c b7))
def X4(i:WgLib P S)(f:eL p)(d:p.ty=S.tWg)(j:QuitsD P qt 0 (G (b₀.at (a₀.put ((ops₀[i₀]?).bind (·.dst)) (.tuple #[])) (.inRegion ops₀ rest₀::k₀)) cs))(e:p.live w)(l:w.cell? ⟨p.bR,p.kx k,none⟩=some val)(c:p.kQ k w):
 gA P false (dw p k) (p.xA k) (jW p k) (E5 P p k) (G ((base S.done).at ⟨#[.pointer (some ⟨p.Wg,0,none⟩),undef,undef,undef],[]⟩ [.code (body_done S)]) (b₀.at a₀ (.inRegion ops₀ (i₀::rest₀)::k₀)::cs)) w:=by
 letI:=p.pl;have e:WgLive S.tWg p.Wg w:=d▸e;have m:=Way.vi qE (X2 (C:=p.bR) (n:=p.n) (k:=p.kx k) (val:=val) i j w ⟨e,l⟩);refine Way.toN (Way.mono (fun g w' h=>?_) (Way.X3 (R':=dw p k) (D':=jW p k) (p.kQ k) (fun a b _ h=>by have:=h.rw f;rw[dj.rY,d]at this;exact this) (fun a b h c=>f.pay k a b h c) (fun a b o h c=>by rw[h.1];exact c) (fun a b o _ h=>by obtain⟨r,s⟩:=h;rw[r,s];exact jW.idle a) m c));obtain⟨⟨h1,_,h2⟩,t⟩:=h;unfold E5 dj.rY;rw[d];exact⟨h1,t,h2⟩
end
end
end Go.aA
namespace Go.Proofs.YtcminalaicidiaaGreatDoor
section
open Go
abbrev link:Go.Conc.Lib.WgLink:={add:=49,done:=48,wait:=50,relMerge:=60,disable:=61,enable:=62,inBubble:=63,associate:=64,fatal:=65,uOr:=66,uAdd:=67,raceRead:=68,uLoad:=69,uStore:=70,disassociate:=71,semrelease:=72,acquire:=73,isAssociated:=74,uCas:=75,raceWrite:=76,semacquire:=77,orU64:=87,addU64:=88,loadU64:=89,storeU64:=90,casU64:=91,tWgP:=101,tUP:=130,tAssoc:=131,tWg:=112,tAU:=110,tU64:=51,tUint:=61,tU32:=43,tPU32:=134,tPAU:=155,tPU64:=121,tNoCopy:=106,tANoCopy:=107,tAlign64:=108}
def zW:Go.Conc.Lib.WgLib Tryz.prog link:=
 ⟨Tryz.func49,Tryz.func48,Tryz.func50,Tryz.func60,Tryz.func61,Tryz.func62,Tryz.func63,Tryz.func64,Tryz.func65,Tryz.func66,Tryz.func67,Tryz.func68,Tryz.func69,Tryz.func70,Tryz.func71,Tryz.func72,Tryz.func73,Tryz.func74,Tryz.func75,Tryz.func76,Tryz.func77,Tryz.func87,Tryz.func88,Tryz.func89,Tryz.func90,Tryz.func91,Tryz.underlying101,Tryz.runUnderlying101,Tryz.sizeOf101,Tryz.isAgg101,Tryz.zeroValue101,Tryz.underlying130,Tryz.runUnderlying130,Tryz.sizeOf130,Tryz.isAgg130,Tryz.zeroValue130,Tryz.underlying131,Tryz.runUnderlying131,Tryz.sizeOf131,Tryz.isAgg131,Tryz.zeroValue131,Tryz.underlying112,Tryz.runUnderlying112,Tryz.sizeOf112,Tryz.isAgg112,Tryz.zeroValue112,Tryz.underlying110,Tryz.runUnderlying110,Tryz.sizeOf110,Tryz.isAgg110,Tryz.zeroValue110,Tryz.underlying51,Tryz.runUnderlying51,Tryz.sizeOf51,Tryz.isAgg51,Tryz.zeroValue51,Tryz.underlying61,Tryz.runUnderlying61,Tryz.sizeOf61,Tryz.isAgg61,Tryz.zeroValue61,Tryz.underlying43,Tryz.runUnderlying43,Tryz.sizeOf43,Tryz.isAgg43,Tryz.zeroValue43,Tryz.underlying134,Tryz.runUnderlying134,Tryz.sizeOf134,Tryz.isAgg134,Tryz.zeroValue134,Tryz.underlying155,Tryz.runUnderlying155,Tryz.sizeOf155,Tryz.isAgg155,Tryz.zeroValue155,Tryz.underlying121,Tryz.runUnderlying121,Tryz.sizeOf121,Tryz.isAgg121,Tryz.zeroValue121,Tryz.underlying0,Tryz.runUnderlying0,Tryz.sizeOf0,Tryz.isAgg0,Tryz.zeroValue0,Tryz.underlying3,Tryz.runUnderlying3,Tryz.sizeOf3,Tryz.isAgg3,Tryz.zeroValue3,Tryz.underlying4,Tryz.runUnderlying4,Tryz.sizeOf4,Tryz.isAgg4,Tryz.zeroValue4,Tryz.underlying9,Tryz.runUnderlying9,Tryz.sizeOf9,Tryz.isAgg9,Tryz.zeroValue9,Tryz.underlying20,Tryz.runUnderlying20,Tryz.sizeOf20,Tryz.isAgg20,Tryz.zeroValue20,Tryz.underlying21,Tryz.runUnderlying21,Tryz.sizeOf21,Tryz.isAgg21,Tryz.zeroValue21,(by kernel_rfl),(by kernel_rfl)⟩
end
section
open Go Go.aA Conc Conc.Lib RowKit
open Go.ConcR (KK WgAt stA smA rd wr mk DC0 wgBlock)
open Go.ConcR.Gen Go.ConcN.Gen
open Go.ConcN (WgLive)
variable{Q:World}{t:TypeId}{v:Value}{R:Obj}{b:Nat}
abbrev r4(P:Program)(Sh:Loc→Prop)(Wg:Nat)(U:lu):Goroutine→World→Prop:=aA.Way P true AtRel (zT Sh Wg) U
section
variable{P:Program}{Sh:Loc→Prop}{Wg n:Nat}{U:lu}{g:Goroutine}{w:World}
def vn(h:Goes P true AtRel DC0 U n g w):r4 P Sh Wg U g w:=
 Way.OS (fun _ _ h=>h) (fun w _ _ h=>by rw[h.1,h.2];exact⟨aX _,by simp⟩) (Way.vi mO h)
def nx(h:Goes P true AtRel DC0 (fun g w=>g.status=.running∧∀Q,AtRel w Q→(stepG P true g Q).goes fun g' w' a=>zT Sh Wg Q w' a∧r4 P Sh Wg U g' w') n g w):r4 P Sh Wg U g w:=
 Way.trans AtRel.refl mO (vn h) fun g w ⟨d,h⟩=>.one d fun Q e=>by
  have:=h Q e;cases c:stepG P true g Q with
  |go g' w' a=>rw[c]at this;exact⟨g',w',a,rfl,this⟩|_=>rw[c]at this;exact this.elim
def IZ{B:Nat}{a:Addr}(d:Bool)(h:a.block≠Wg)(e:¬Sh (.cell a))(cQ:a.block<B):zN Sh Wg B ⟨.cell a,d,false⟩:=by
 refine⟨fun k c=>?_,by rw[y8];simp,by rw[y8];exact cQ⟩;rw[y8]at c;simp only[MemAct.touch?,aB]at c;subst c;exact⟨fun f=>absurd f e,fun⟨z,i,j⟩=>by cases i;exact absurd j h⟩
end
structure Ext(w0:World)(gJ:List Obj)(w:World):Prop where
 os:w.os=w0.os
 tape:w.tape=w0.tape
 output:w.output=w0.output
 heap:w.heap=w0.heap++gJ.toArray
section
variable{w0 w:World}{gJ:List Obj}
def Ext.refl(w:World):Ext w [] w:=⟨rfl,rfl,rfl,by simp⟩
def Ext.rely(h:Ext w0 gJ w)(r:AtRel w Q):Ext w0 gJ Q:=by obtain⟨d,rfl⟩:=r;exact⟨h.os,h.tape,h.output,h.heap⟩
def Ext.alloc(h:Ext w0 gJ w)(R:Obj):Ext w0 (gJ++[R]) (w.alloc R):=⟨h.os,h.tape,h.output,by simp[World.alloc,h.heap]⟩
def Ext.size(h:Ext w0 gJ w):w.heap.size=w0.heap.size+gJ.length:=by rw[h.heap];simp
def xF(w:World)(R:Obj):w.heap.size≤(w.alloc R).heap.size:=by simp[World.alloc, -World.alloc_eq]
def Ext.xG(h:Ext w0 (gJ++[R]) (w.alloc R)):w.heap.size=w0.heap.size+gJ.length:=by
 have:=h.size;have a:(w.alloc R).heap.size=w.heap.size+1:=by simp[World.alloc, -World.alloc_eq]
 rw[a,fA,List.length_singleton]at this;omega
def Ext.at(h:Ext w0 gJ w)(i:Nat)(hi:gJ[i]? =some R):w.heap[w0.heap.size+i]? =some R:=by
 rw[h.heap,Array.getElem?_append_right (by omega)];simpa using hi
def Ext.old(h:Ext w0 gJ w){c:Nat}(a:c<w0.heap.size):w.heap[c]? =w0.heap[c]? :=by rw[h.heap,Array.getElem?_append_left a]
def Ext.cell(h:Ext w0 gJ w)(i:Nat){cs:Array Value}(hi:gJ[i]? =some (.cells cs t))(a:cs[0]? =some v):w.cell? ⟨w0.heap.size+i,0,none⟩=some v:=by
 simp[World.cell?,h.at i hi,a]
def Ext.thaw(h:Ext w0 gJ w)(i:Nat){cs:Array Value}(hi:gJ[i]? =some (.cells cs t)):w.frozen? ⟨w0.heap.size+i,0,none⟩=false:=by
 simp[World.frozen?,h.at i hi]
def Ext.store(h:Ext w0 gJ w)(i:Nat){a:Value}(hi:gJ[i]? =some (.cells #[a] t))(v:Value):Ext w0 (gJ.set i (.cells #[v] t)) (w.setCell ⟨w0.heap.size+i,0,none⟩ v):=by
 have cC:=aside_setCell w ⟨w0.heap.size+i,0,none⟩ v;refine⟨cC.os.trans h.os,cC.tape.trans h.tape,cC.output.trans h.output,?_⟩;have c:w.heap[w0.heap.size+i]? =some (.cells #[a] t):=h.at i hi;apply Array.ext_getElem?;intro j;by_cases d:j=w0.heap.size+i
 ·subst d;rw[setCell_eq_setRow w _ 0 _ t (0,0) _ c,setRow_heap w _ _ _ t _ c];have e:i<gJ.length:=(dX.1 hi).1;simp[h.heap,e]
 ·rw[cC.block j d,h.heap];simp only[Oe];split
  ·rfl
  ·have f:i≠j-w0.heap.size:=by omega
   simp[mw f]
end
def X5(T:Array Value):T=⟨(List.range T.size).map fun i=>T.getD i undef⟩:=by
 apply Array.ext
 ·simp
 ·intro i h1 h2;simp[Array.getD,h1]
def r5(T:Array Value)(h:T.size=43):∃f:Nat→Value,T=#[f 0,f 1,f 2,f 3,f 4,f 5,f 6,f 7,f 8,f 9,f 10,f 11,f 12,f 13,f 14,f 15,f 16,f 17,f 18,f 19,f 20,f 21,f 22,f 23,f 24,f 25,f 26,f 27,f 28,f 29,f 30,f 31,f 32,f 33,f 34,f 35,f 36,f 37,f 38,f 39,f 40,f 41,f 42]:=by
 refine⟨fun i=>T.getD i undef,?_⟩;have:=X5 T;rw[h]at this;exact this.trans rfl
def dP:Code→Code|.seq _ b=>b|c=>c
def j8:Code→Code|.seq a _=>a|c=>c
def j9:Code→Code|.block _ b=>b|c=>c
def ny:Code→Code|.loop b=>b|c=>c
def opsOf:Code→Array Oper|.region _ R _=>R|_=>#[]
def pU:Code:=Tryz.f33.body.getD .skip
def lT:Code:=ny (j9 (dP (dP (dP (dP (dP pU))))))
def nA:Code:=j9 (j8 (dP lT))
def lU:Code:=ny (j9 (dP nA))
def kg:Code:=j9 (j8 (dP lU))
def ki:Code:=ny (j9 (dP (j8 (dP kg))))
def oR:Array Oper:=opsOf (j8 kg)
def nB:Array Oper:=opsOf (j8 (j9 (j8 (dP ki))))
def qG:Array Oper:=opsOf (dP (j9 (j8 (dP ki))))
def mQ:Array Oper:=opsOf (dP (dP kg))
def pV:List Item:=[.inBlock 1,.code (dP (dP lT)),.inLoop lT,.inBlock 0]
def kn:List Item:=.inBlock 3::.code (dP (dP lU))::.inLoop lU::.inBlock 2::pV
def jc(T:Array Value)(k:List Item):Frame:=(base 33).at ⟨T,[]⟩ k
def vo(T:Array Value)(cs:List Frame):Goroutine:=G (jc T [.code lT,.inLoop lT,.inBlock 0]) cs
def r6(T:Array Value)(cs:List Frame):Goroutine:=G (jc T (.code lU::.inLoop lU::.inBlock 2::pV)) cs
def zX(T:Array Value)(cs:List Frame):Goroutine:=G (jc T (.inRegion oR [0]::.code (dP kg)::kn)) cs
def vp(T:Array Value)(cs:List Frame):Goroutine:=G (jc T (.code ki::.inLoop ki::.inBlock 4::.code (dP (dP kg))::kn)) cs
def zY(T:Array Value)(cs:List Frame):Goroutine:=G {jc T []with mode:=.returning} cs
def cA(n:Nat):Value:=.pointer (some ⟨n,0,none⟩)
def mR(n0:Nat):Array Value:=#[cA (n0+4),cA (n0+2),cA (n0+1),cA (n0+5),cA (n0+6),cA n0,cA (n0+3)]
structure TS(n0:Nat)(n:Int)(T:Array Value):Prop where
 size:T.size=43
 t5:T[5]? =some (cA n0)
 t6:T[6]? =some (cA (n0+1))
 t7:T[7]? =some (cA (n0+2))
 t8:T[8]? =some (cA (n0+3))
 t9:T[9]? =some (cA (n0+4))
 t10:T[10]? =some (cA (n0+5))
 t11:T[11]? =some (cA (n0+6))
 t12:T[12]? =some (.func (.func 44) #[] (mR n0))
 t13:T[13]? =some (.int .u32 n)
def boxes(lV:Option Addr)(lW eM:Nat)(tm mem dD m V W:Int):List Obj:=
 [.cells #[.slice lV lW eM] 68,.cells #[.int .u32 tm] 43,.cells #[.int .u32 mem] 43,.cells #[.int .u32 dD] 43,.cells #[.int .i64 m] 3,.cells #[.int .u32 V] 43,.cells #[.int .u32 W] 43]
section
variable{Sh:Loc→Prop}{w0:World}{lV:Option Addr}{lW eM:Nat}{tm mem dD m V W:Int}{cs:List Frame}
def xH(d:∀a:Addr,Sh (.cell a)→a.block<w0.heap.size){gJ:List Obj}{w:World}(e:Ext w0 gJ w){i:Nat}(hi:i<gJ.length)(f:w0.heap.size+i≠w0.heap.size+7)(c:Bool)(R:Nat){B:Nat}(cQ:w.heap.size≤B):zN Sh (w0.heap.size+7) B ⟨.cell ⟨w0.heap.size+i,R,none⟩,c,false⟩:=
 IZ c f (fun h=>by have:=d _ h;simp at this;omega) (by show w0.heap.size+i<B;have:=e.size;omega)
def X6(s:∀a:Addr,Sh (.cell a)→a.block<w0.heap.size)(x:¬dD=0)(y:IntKind.u32.wrap (mem.tdiv dD)=V)(z:IntKind.u32.wrap (V.tdiv 4)=W)(w:World)(c:Ext w0 [] w):
 r4 Tryz.prog Sh (w0.heap.size+7) (fun g w=>∃T,g=vo T cs∧TS w0.heap.size 0 T∧Ext w0 (boxes lV lW eM tm mem dD m V W) w) (G ((base 33).at ⟨#[.slice lV lW eM,.int .u32 tm,.int .u32 mem,.int .u32 dD,.int .i64 m,undef,undef,undef,undef,undef,undef,undef,undef,undef,undef,undef,undef,undef,undef,undef,undef,undef,undef,undef,undef,undef,undef,undef,undef,undef,undef,undef,undef,undef,undef,undef,undef,undef,undef,undef,undef,undef,undef],[]⟩ [.code (Tryz.f33.body.getD .skip)]) cs) w:=by
 have xH:∀{gJ:List Obj} {w:World},Ext w0 gJ w→∀{i:Nat},i<gJ.length→w0.heap.size+i≠w0.heap.size+7→∀(r:Bool) (R:Nat) {B:Nat},w.heap.size≤B→zN Sh (w0.heap.size+7) B ⟨.cell ⟨w0.heap.size+i,R,none⟩,r,false⟩:=fun c i hi u r R B cQ=>xH s c hi u r R cQ;simp only[Tryz.f33,ic];refine nx (n:=9) ?_
 u_c stepG_seq Ext.rely c
 u_reg Ext.rely c
 refine Goes.stop fun Q e=>⟨rfl,fun p f=>?_⟩;replace c:=(c.rely e).rely f;clear e f;refine goes_oper_k rfl rfl (by k_ne) (fun j d=>?_);go_simp;refine d _ _ ⟨⟨xF _ _,fun o k=>by have h:=mem_listed k;clear d;simp[go_sem,storedEv]at h⟩,nx (n:=9) ?_⟩;clear d j;replace c:=Ext.alloc c (.cells #[.slice lV lW eM] 68);rw[Ext.xG c];simp only[jP,ng,iY,kK,gd,cM,Nat.reduceAdd]at c⊢;try w_num
 refine Goes.stop fun Q e=>⟨rfl,fun p f=>?_⟩;replace c:=(c.rely e).rely f;clear e f;refine goes_oper_k rfl rfl (by k_ne) (fun j d=>?_);go_simp;refine d _ _ ⟨⟨xF _ _,fun o k=>by have h:=mem_listed k;clear d;simp[go_sem,storedEv]at h⟩,nx (n:=9) ?_⟩;clear d j;replace c:=Ext.alloc c (.cells #[.int .u32 tm] 43);rw[Ext.xG c];simp only[jP,ng,iY,kK,gd,cM,Nat.reduceAdd]at c⊢;try w_num
 refine Goes.stop fun Q e=>⟨rfl,fun p f=>?_⟩;replace c:=(c.rely e).rely f;clear e f;refine goes_oper_k rfl rfl (by k_ne) (fun j d=>?_);go_simp;refine d _ _ ⟨⟨xF _ _,fun o k=>by have h:=mem_listed k;clear d;simp[go_sem,storedEv]at h⟩,nx (n:=9) ?_⟩;clear d j;replace c:=Ext.alloc c (.cells #[.int .u32 mem] 43);rw[Ext.xG c];simp only[jP,ng,iY,kK,gd,cM,Nat.reduceAdd]at c⊢;try w_num
 refine Goes.stop fun Q e=>⟨rfl,fun p f=>?_⟩;replace c:=(c.rely e).rely f;clear e f;refine goes_oper_k rfl rfl (by k_ne) (fun j d=>?_);go_simp;refine d _ _ ⟨⟨xF _ _,fun o k=>by have h:=mem_listed k;clear d;simp[go_sem,storedEv]at h⟩,nx (n:=9) ?_⟩;clear d j;replace c:=Ext.alloc c (.cells #[.int .u32 dD] 43);rw[Ext.xG c];simp only[jP,ng,iY,kK,gd,cM,Nat.reduceAdd]at c⊢;try w_num
 refine Goes.stop fun Q e=>⟨rfl,fun p f=>?_⟩;replace c:=(c.rely e).rely f;clear e f;refine goes_oper_k rfl rfl (by k_ne) (fun j d=>?_);go_simp;refine d _ _ ⟨⟨xF _ _,fun o k=>by have h:=mem_listed k;clear d;simp[go_sem,storedEv]at h⟩,nx (n:=9) ?_⟩;clear d j;replace c:=Ext.alloc c (.cells #[.int .i64 m] 3);rw[Ext.xG c];simp only[jP,ng,iY,kK,gd,cM,Nat.reduceAdd]at c⊢;try w_num
 u_c stepG_region_end Ext.rely c
 u_c stepG_seq Ext.rely c
 u_reg Ext.rely c
 refine Goes.stop fun Q e=>⟨rfl,fun p f=>?_⟩;replace c:=(c.rely e).rely f;clear e f;refine goes_oper_k rfl rfl (by k_ne) (fun j d=>?_);have l:=Ext.cell c 2 rfl rfl;(try simp only[gd]at l);go_simp;refine d _ _ ⟨⟨aX _,fun o k=>by have h:=mem_listed k;clear d;simp[go_sem,l]at h;subst h;exact⟨xH (i:=2) c (by show _<_;simp only[iY,kK];omega) (by omega) false _ (aX _),by simp,by simp⟩⟩,nx (n:=9) ?_⟩;clear d j l;refine Goes.stop fun Q e=>⟨rfl,fun p f=>?_⟩;replace c:=(c.rely e).rely f;clear e f;refine goes_oper_k rfl rfl (by k_ne) (fun j d=>?_);have l:=Ext.cell c 3 rfl rfl;(try simp only[gd]at l);go_simp;refine d _ _ ⟨⟨aX _,fun o k=>by have h:=mem_listed k;clear d;simp[go_sem,l]at h;subst h;exact⟨xH (i:=3) c (by show _<_;simp only[iY,kK];omega) (by omega) false _ (aX _),by simp,by simp⟩⟩,nx (n:=9) ?_⟩;clear d j l
 u_op Ext.rely c
 refine Goes.stop fun Q e=>⟨rfl,fun p f=>?_⟩;replace c:=(c.rely e).rely f;clear e f;refine goes_oper_k rfl rfl (by k_ne) (fun j d=>?_);go_simp;refine d _ _ ⟨⟨xF _ _,fun o k=>by have h:=mem_listed k;clear d;simp[go_sem,storedEv]at h⟩,nx (n:=9) ?_⟩;clear d j;replace c:=Ext.alloc c (.cells #[.int .u32 0] 43);rw[Ext.xG c];simp only[jP,ng,iY,kK,gd,cM,Nat.reduceAdd]at c⊢;try w_num
 refine Goes.stop fun Q e=>⟨rfl,fun p f=>?_⟩;replace c:=(c.rely e).rely f;clear e f;refine goes_oper_k rfl rfl (by k_ne) (fun j d=>?_);have l:=Ext.cell c 5 rfl rfl;have q:=Ext.thaw c 5 rfl;(try simp only[gd]at l q);go_simp;refine d _ _ ⟨⟨pJ (aside_setCell _ _ _).size.symm,fun o k=>by have h:=mem_listed k;clear d;simp[go_sem,storedEv,l,q]at h;subst h;exact⟨xH (i:=5) c (by show _<_;simp only[iY,kK];omega) (by omega) true _ (pJ (aside_setCell _ _ _).size.symm),by simp,by simp⟩⟩,nx (n:=9) ?_⟩;clear d j l q;replace c:=Ext.store c 5 rfl (.int .u32 V);simp only[List.set,aog,Wi]at c
 u_c stepG_region_end Ext.rely c
 u_c stepG_seq Ext.rely c
 u_reg Ext.rely c
 refine Goes.stop fun Q e=>⟨rfl,fun p f=>?_⟩;replace c:=(c.rely e).rely f;clear e f;refine goes_oper_k rfl rfl (by k_ne) (fun j d=>?_);have l:=Ext.cell c 5 rfl rfl;(try simp only[gd]at l);go_simp;refine d _ _ ⟨⟨aX _,fun o k=>by have h:=mem_listed k;clear d;simp[go_sem,l]at h;subst h;exact⟨xH (i:=5) c (by show _<_;simp only[iY,kK];omega) (by omega) false _ (aX _),by simp,by simp⟩⟩,nx (n:=9) ?_⟩;clear d j l
 u_op Ext.rely c
 refine Goes.stop fun Q e=>⟨rfl,fun p f=>?_⟩;replace c:=(c.rely e).rely f;clear e f;refine goes_oper_k rfl rfl (by k_ne) (fun j d=>?_);go_simp;refine d _ _ ⟨⟨xF _ _,fun o k=>by have h:=mem_listed k;clear d;simp[go_sem,storedEv]at h⟩,nx (n:=9) ?_⟩;clear d j;replace c:=Ext.alloc c (.cells #[.int .u32 0] 43);rw[Ext.xG c];simp only[jP,ng,iY,kK,gd,cM,Nat.reduceAdd]at c⊢;try w_num
 refine Goes.stop fun Q e=>⟨rfl,fun p f=>?_⟩;replace c:=(c.rely e).rely f;clear e f;refine goes_oper_k rfl rfl (by k_ne) (fun j d=>?_);have l:=Ext.cell c 6 rfl rfl;have q:=Ext.thaw c 6 rfl;(try simp only[gd]at l q);go_simp;refine d _ _ ⟨⟨pJ (aside_setCell _ _ _).size.symm,fun o k=>by have h:=mem_listed k;clear d;simp[go_sem,storedEv,l,q]at h;subst h;exact⟨xH (i:=6) c (by show _<_;simp only[iY,kK];omega) (by omega) true _ (pJ (aside_setCell _ _ _).size.symm),by simp,by simp⟩⟩,vn (n:=30) ?_⟩;clear d j l q;replace c:=Ext.store c 6 rfl (.int .u32 W);simp only[List.set,aog,Wi]at c
 u_c stepG_region_end Ext.rely c
 u_c stepG_seq Ext.rely c
 u_reg Ext.rely c
 u_in Ext.rely c;refine goes_oper_k rfl rfl (by k_ne) (fun j d=>?_);go_simp;refine d _ _ ⟨dc0_none fun o k=>by have h:=mem_listed k;clear d;simp[go_sem,Instr.makeFunc]at h,?_⟩;clear d j
 u_op Ext.rely c
 u_c stepG_region_end Ext.rely c
 u_c stepG_seq Ext.rely c
 u_reg Ext.rely c
 u_op Ext.rely c
 u_c stepG_region_end Ext.rely c
 u_c stepG_block Ext.rely c
 u_c stepG_loop Ext.rely c
 exact Goes.stop fun Q e=>⟨_,rfl,⟨rfl,rfl,rfl,rfl,rfl,rfl,rfl,rfl,rfl,rfl⟩,c.rely e⟩
end
section
variable{Sh:Loc→Prop}{Wg n0:Nat}{n S tm:Int}{cs:List Frame}
def Cl(b:Nat)(v:Value)(w0 w:World):Prop:=AtRel w0 w∧w.heap[b]? =some (.cells #[v] 43)
def gj{w0 w:World}(h:Cl b v w0 w)(r:AtRel w Q):Cl b v w0 Q:=⟨mO _ _ _ h.1 r,by obtain⟨d,rfl⟩:=r;exact h.2⟩
def Pd{w0 w:World}(h:Cl b v w0 w):w.cell? ⟨b,0,none⟩=some v:=by simp[World.cell?,h.2]
def fV{w0 w:World}(h:AtRel w0 w)(r:AtRel w Q):AtRel w0 Q:=mO _ _ _ h r
def Cm(T:Array Value)(cs:List Frame):Goroutine:=G ((base 33).at ((⟨T,[]⟩:Act).put ((mQ[0]?).bind (·.dst)) (.tuple #[])) (.inRegion mQ []::kn)) cs
def X9{T:Array Value}(A:TS n0 n T)(F:n<tm)(w:World)(h:w.heap[n0+1]? =some (.cells #[.int .u32 tm] 43))(B:¬Sh (.cell ⟨n0+1,0,none⟩))(C:n0+1≠Wg):
 r4 Tryz.prog Sh Wg (fun g w'=>(∃d,g=r6 d cs∧TS n0 n d∧d[14]? =some (.int .u32 0))∧AtRel w w') (vo T cs) w:=by
 obtain⟨i,j,k,l,o,p,q,r,s,u⟩:=A;obtain⟨f,rfl⟩:=r5 T i;simp only[rL,ta,rM,aB]at j k l o p q r s u;clear i;have a:Cl (n0+1) (.int .u32 tm) w w:=⟨AtRel.refl w,h⟩;clear h;refine nx (n:=9) ?_;simp only[jc,vo,pV,kn,kg,lU,nA,ki,lT,pU,Tryz.f33,ic,dP,j8,j9,ny,opsOf,cA,mR,oR,nB,qG,mQ]at *;simp only[j,k,l,o,p,q,r,s,u]
 u_c stepG_seq gj a
 u_c stepG_seq gj a
 u_reg gj a
 u_op gj a
 refine Goes.stop fun Q c=>⟨rfl,fun H x=>?_⟩;replace a:=gj (gj a c) x;clear c x;refine goes_oper_k rfl rfl (by k_ne) (fun D e=>?_);have y:=Pd a;go_simp;refine e _ _ ⟨⟨aX _,fun I E=>by have z:=mem_listed E;clear e;simp[go_sem,y]at z;subst z;exact⟨IZ false C B (dW.1 a.2).1,by simp,by simp⟩⟩,vn (n:=40) ?_⟩;clear e D y
 u_op gj a
 u_c stepG_region_end gj a
 u_cnd true gj a
 u_c stepG_skip gj a
 u_c stepG_seq gj a
 u_c stepG_block gj a
 u_c stepG_seq gj a
 u_reg gj a
 u_op gj a
 u_c stepG_region_end gj a
 u_c stepG_block gj a
 u_c stepG_loop gj a
 exact Goes.stop fun Q c=>⟨⟨_,rfl,⟨rfl,rfl,rfl,rfl,rfl,rfl,rfl,rfl,rfl,rfl⟩,rfl⟩,(gj a c).1⟩
def Ya{T:Array Value}(z:TS n0 n T)(F:¬n<tm)(w:World)(e:w.heap[n0+1]? =some (.cells #[.int .u32 tm] 43))(A:¬Sh (.cell ⟨n0+1,0,none⟩))(B:n0+1≠Wg):
 r4 Tryz.prog Sh Wg (fun g w'=>(∃C,g=zY C cs)∧AtRel w w') (vo T cs) w:=by
 obtain⟨h,i,j,k,l,o,p,q,r,s⟩:=z;obtain⟨f,rfl⟩:=r5 T h;simp only[rL,ta,rM,aB]at i j k l o p q r s;clear h;have a:Cl (n0+1) (.int .u32 tm) w w:=⟨AtRel.refl w,e⟩;clear e;refine nx (n:=9) ?_;simp only[jc,vo,pV,kn,kg,lU,nA,ki,lT,pU,Tryz.f33,ic,dP,j8,j9,ny,opsOf,cA,mR,oR,nB,qG,mQ]at *;simp only[i,j,k,l,o,p,q,r,s]
 u_c stepG_seq gj a
 u_c stepG_seq gj a
 u_reg gj a
 u_op gj a
 refine Goes.stop fun Q c=>⟨rfl,fun H u=>?_⟩;replace a:=gj (gj a c) u;clear c u;refine goes_oper_k rfl rfl (by k_ne) (fun D d=>?_);have x:=Pd a;go_simp;refine d _ _ ⟨⟨aX _,fun I E=>by have y:=mem_listed E;clear d;simp[go_sem,x]at y;subst y;exact⟨IZ false B A (dW.1 a.2).1,by simp,by simp⟩⟩,vn (n:=40) ?_⟩;clear d D x
 u_op gj a
 u_c stepG_region_end gj a
 u_cnd false gj a
 u_exit gj a
 u_c stepG_end gj a
 exact Goes.stop fun Q c=>⟨⟨_,rfl⟩,(gj a c).1⟩
def Yb{T:Array Value}(s:TS n0 n T)(d:T[14]? =some (.int .u32 S))(x:S<4)(w:World):
 r4 Tryz.prog Sh Wg (fun g w'=>(∃c,g=zX c cs∧TS n0 n c∧c[14]? =some (.int .u32 S))∧AtRel w w') (r6 T cs) w:=by
 obtain⟨e,h,i,j,k,l,o,p,q,r⟩:=s;obtain⟨f,rfl⟩:=r5 T e;simp only[rL,ta,rM,aB]at h i j k l o p q r d;clear e;have a:AtRel w w:=AtRel.refl w;refine vn (n:=40) ?_;simp only[jc,r6,pV,kn,kg,lU,nA,ki,lT,pU,Tryz.f33,ic,dP,j8,j9,ny,opsOf,cA,mR,oR,nB,qG,mQ]at *;simp only[h,i,j,k,l,o,p,q,r,d]
 u_c stepG_seq fV a
 u_c stepG_seq fV a
 u_reg fV a
 iterate 2 (u_op fV a)
 u_c stepG_region_end fV a
 u_cnd true fV a
 u_c stepG_skip fV a
 u_c stepG_seq fV a
 u_c stepG_block fV a
 u_c stepG_seq fV a
 u_reg fV a
 exact Goes.stop fun Q u=>⟨⟨_,rfl,⟨rfl,rfl,rfl,rfl,rfl,rfl,rfl,rfl,rfl,rfl⟩,rfl⟩,fV a u⟩
def Yc{T:Array Value}(s:TS n0 n T)(c:T[14]? =some (.int .u32 S))(x:¬S<4)(y:IntKind.u32.wrap (n+1)=n+1)(w:World):
 r4 Tryz.prog Sh Wg (fun g w'=>(∃d,g=vo d cs∧TS n0 (n+1) d)∧AtRel w w') (r6 T cs) w:=by
 obtain⟨e,h,i,j,k,l,o,p,q,r⟩:=s;obtain⟨f,rfl⟩:=r5 T e;simp only[rL,ta,rM,aB]at h i j k l o p q r c;clear e;have a:AtRel w w:=AtRel.refl w;refine vn (n:=40) ?_;simp only[jc,r6,pV,kn,kg,lU,nA,ki,lT,pU,Tryz.f33,ic,dP,j8,j9,ny,opsOf,cA,mR,oR,nB,qG,mQ]at *;simp only[h,i,j,k,l,o,p,q,r,c]
 u_c stepG_seq fV a
 u_c stepG_seq fV a
 u_reg fV a
 iterate 2 (u_op fV a)
 u_c stepG_region_end fV a
 u_cnd false fV a
 u_exit fV a
 u_c stepG_inBlock fV a
 u_reg fV a
 iterate 3 (u_op fV a)
 u_c stepG_region_end fV a
 u_c stepG_inLoop fV a
 exact Goes.stop fun Q u=>⟨⟨_,rfl,⟨rfl,rfl,rfl,rfl,rfl,rfl,rfl,rfl,rfl,rfl⟩⟩,fV a u⟩
def slice3{T:Array Value}(s:TS n0 n T)(d:T[14]? =some (.int .u32 S))(x:IntKind.u32.wrap (S+1)=S+1)(w:World):
 r4 Tryz.prog Sh Wg (fun g w'=>(∃c,g=r6 c cs∧TS n0 n c∧c[14]? =some (.int .u32 (S+1)))∧AtRel w w') (Cm T cs) w:=by
 obtain⟨e,h,i,j,k,l,o,p,q,r⟩:=s;obtain⟨f,rfl⟩:=r5 T e;simp only[rL,ta,rM,aB]at h i j k l o p q r d;clear e;have a:AtRel w w:=AtRel.refl w;refine vn (n:=40) ?_;simp only[jc,Cm,pV,kn,kg,lU,nA,ki,lT,pU,Tryz.f33,ic,dP,j8,j9,ny,opsOf,cA,mR,oR,nB,qG,mQ]at *;simp only[h,i,j,k,l,o,p,q,r,d]
 walk_nrm
 u_c stepG_region_end fV a
 u_c stepG_inBlock fV a
 u_reg fV a
 iterate 3 (u_op fV a)
 u_c stepG_region_end fV a
 u_c stepG_inLoop fV a
 exact Goes.stop fun Q u=>⟨⟨_,rfl,⟨rfl,rfl,rfl,rfl,rfl,rfl,rfl,rfl,rfl,rfl⟩,rfl⟩,fV a u⟩
end
end
end Go.Proofs.YtcminalaicidiaaGreatDoor
end

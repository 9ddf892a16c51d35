/- A part of the proof of FnArgon2. No condition. -/
import Derived.Orders
import Derived.CheckFast
import Derived.Laws.Sem
import Derived.Conc.Neutral
import Derived.Conc.Listed
import Derived.Conc.Own5
import Derived.IntWalk
import Derived.Conc.Pipeline
import Derived.Conc.CrowdBase
import Derived.Conc.CrowdStepW
import Derived.Conc.FxEnd
import Derived.Conc.Beside
import Derived.Conc.CrowdStepC
import Derived.Conc.WgGenN3
import Derived.Test.YtcminalaicidiaaGreatDoorProg
import Derived.Conc.WgLib
import Derived.KernelRfl
set_option maxRecDepth 100000
set_option maxHeartbeats 8000000
set_option linter.all false
def j3:=@Array.ext'
def N0:=@Array.getElem?_append
def dP:=@Array.getElem?_eq_getElem
def dX:=@Array.getElem?_eq_some_iff
def HP:=@Array.getElem?_modify
def Bd:=@Array.getElem?_push
def V1:=@Array.getElem?_push_lt
def NV:=@Array.getElem?_setIfInBounds
def Ec:=@Array.getElem?_setIfInBounds_ne
def yX:=@Array.mem_append
def anQ:=@Array.mem_iff_getElem
def anR:=@Array.mem_of_getElem?
def anT:=@Array.mem_singleton
def anS:=@Array.size_setIfInBounds
def anO:=@BitVec.allOnes_xor
def mo:=@BitVec.eq_of_toNat_eq
def uD:=@BitVec.ofInt_natCast
def VS:=@BitVec.ofNat_toNat
def VT:=@BitVec.setWidth_eq
def VY:=@BitVec.toNat_and
def VV:=@BitVec.toNat_eq
def qw:=@BitVec.toNat_ofInt
def g7:=@BitVec.toNat_ofNat
def kH:=@BitVec.toNat_setWidth
def anN:=@BitVec.toNat_shiftLeft
def kG:=@BitVec.toNat_sub
def rI:=@BitVec.toNat_udiv
def oy:=@BitVec.toNat_umod
def yY:=@BitVec.toNat_ushiftRight
def ox:=@Bool.eq_iff_iff
def nc:=@Bool.false_eq_true
def Eb:=@Go.Conc.mem_ofEvents
def rJ:=@Go.ConcN.RW.refl
def V0:=@Go.ConcR.ofEvent_cell
def Ea:=@Go.ConcR.ofEvent_loc_mark
def anP:=@Go.ConcR.ofEvent_mk
def yZ:=@Go.ConcX.ofEvent_cell
def VU:=@Int.add_emod_right
def VR:=@Int.emod_eq_of_lt
def VZ:=@Int.emod_nonneg
def NY:=@Int.eq_ofNat_of_zero_le
def VX:=@Int.fdiv_eq_ediv_of_nonneg
def NW:=@Int.natCast_emod
def pK:=@Int.tdiv_eq_ediv_of_nonneg
def eA:=@Int.toNat_natCast
def D9:=@Int.toNat_of_nonneg
def Bg:=@List.append_toArray
def nh:=@List.cons_append
def NT:=@List.foldl_cons
def rL:=@List.getElem?_cons_succ
def s9:=@List.getElem?_cons_zero
def s8:=@List.getElem?_drop
def dW:=@List.getElem?_eq_some_iff
def mw:=@List.getElem?_set_ne
def rK:=@List.getElem?_toArray
def fB:=@List.length_append
def iW:=@List.length_cons
def D8:=@List.length_drop
def kI:=@List.length_nil
def lJ:=@List.length_set
def jJ:=@List.mem_cons
def ng:=@List.mem_cons_of_mem
def lK:=@List.mem_cons_self
def pJ:=@List.mem_of_getElem?
def jK:=@List.nil_append
def HS:=@List.not_mem_nil
def V2:=@List.set_cons_succ
def anU:=@List.set_cons_zero
def HO:=@List.take_append_of_le_length
def gb:=@Nat.add_zero
def Bf:=@Nat.div_eq_of_lt
def qx:=@Nat.eq_zero_or_pos
def pI:=@Nat.le_of_eq
def NZ:=@Nat.le_of_not_lt
def aV:=@Nat.le_refl
def ga:=@Nat.le_trans
def dN:=@Nat.lt_of_lt_of_le
def cu:=@Nat.lt_or_ge
def wV:=@Nat.lt_trichotomy
def Be:=@Nat.min_eq_left
def HR:=@Nat.min_eq_right
def dO:=@Nat.mod_eq_of_lt
def qv:=@Nat.mod_lt
def iV:=@Nat.mul_assoc
def oz:=@Nat.not_lt_zero
def VW:=@Nat.shiftLeft_eq
def wU:=@Nat.shiftRight_eq_div_pow
def gE:=@Nat.sub_zero
def cM:=@Nat.zero_add
def j0:=@Nat.zero_le
def fC:=@Ne.symm
def ij:=@Option.getD_some
def bT:=@Option.map_eq_some_iff
def ig:=@Option.map_some
def dV:=@Option.some.inj
def aD:=@Option.some.injEq
def aO:=@Prod.mk.injEq
def NU:=@and_self
def uE:=@and_true
def eT:=@beq_iff_eq
def j4:=@decide_eq_false
def bu:=@decide_eq_true
def jI:=@decide_eq_true_eq
def ee:=@if_false
def ak:=@if_neg
def ax:=@if_pos
def g6:=@if_true
def mq:=@ne_eq
def mu:=@not_true_eq_false
def bg:=@of_decide_eq_true
def HT:=@or_false
def HQ:=@true_and
noncomputable section
namespace Go.ay
section
variable{w n:Nat}
def cz:(∀a b:Bool,((a&&b)=true)=(a=true∧b=true))∧(∀(p:Prop) [Decidable p],(decide p=true)=p)∧(∀(c:Type) [BEq c] [LawfulBEq c] (a b:c),(a==b)=true↔a=b)∧(∀b:Bool,(b==true)=b)∧(∀b:Bool,(b==false)= !b)∧(∀b:Bool,((!b)=true)=(b=false))∧(∀(p:Prop) [Decidable p],(decide p=false)↔¬p)∧(∀(c:Type) [BEq c] [LawfulBEq c] (a b:c),(a==b)=false↔a≠b)∧(∀(c:Type) (a b:c),(a≠b)=¬(a=b))∧(∀b:Bool,((!b)=false)=(b=true))∧(∀(c:Type) [BEq c] [LawfulBEq c] (a b:c),(a !=b)=true↔a≠b)∧(∀p:Prop,(True∧p)=p)∧(∀p:Prop,(p∧True)=p):=
 ⟨by simp,by simp,fun _ _ _ _ _=>eT,by simp,by simp,by simp,by simp,fun _ _ _ _ _=>beq_eq_false_iff_ne,by simp,by simp,fun _ _ _ _ _=>bne_iff_ne,by simp,by simp⟩
inductive Z where
 |c (n:Int)|s (n:Int)
def Z.v:Z→Int|.c n=>n|.s n=>n
inductive B where
 |c (b:Bool)|s (b:Bool)
def B.v:B→Bool|.c b=>b|.s b=>b
inductive N where
 |c (n:Nat)|s (n:Nat)
def N.v:N→Nat|.c n=>n|.s n=>n
inductive bk where
 |int (k:IntKind) (z:Z)|bP (x:BitVec 8)|cX (x:BitVec 16)|aF (x:BitVec 32)|av (x:BitVec 64)
inductive Ref where
 |ptr (b:Nat) (o:N)|eC (g:Nat) (o:N)|sl (b:Nat) (o l:N) (cap:Option N)|gs (g:Nat) (o l:N)|sm (b:Nat) (l:N) (s:Nat)
inductive El where
 |aa|bool (b:B)|str (s:ByteArray)|mB|cD|fD|mC|exact(v:Value)
inductive Wt where
 |bA|iq (t:Nat)|fn (f:Fn) (first:Nat)
inductive af where
 |num (n:bk)|ref (r:Ref)|atom (a:El)|agg (xs:List af)|obj (t:Wt) (xs:List af)
abbrev af.aa:af:=.atom .aa
abbrev af.bool(b:B):af:=.atom (.bool b)
abbrev af.int(k:IntKind)(z:Z):af:=.num (.int k z)
abbrev af.bP(a:BitVec 8):af:=.num (.bP a)
abbrev af.cX(a:BitVec 16):af:=.num (.cX a)
abbrev af.aF(a:BitVec 32):af:=.num (.aF a)
abbrev af.av(a:BitVec 64):af:=.num (.av a)
abbrev af.str(a:ByteArray):af:=.atom (.str a)
abbrev af.ptr(b:Nat)(a:N):af:=.ref (.ptr b a)
abbrev af.eC(g:Nat)(a:N):af:=.ref (.eC g a)
abbrev af.sm(b:Nat)(l:N)(a:Nat):af:=.ref (.sm b l a)
abbrev af.sl(b:Nat)(a l:N)(c:Option N):af:=.ref (.sl b a l c)
abbrev af.mB:af:=.atom .mB
abbrev af.cD:af:=.atom .cD
abbrev af.fD:af:=.atom .fD
abbrev af.mC:af:=.atom .mC
abbrev af.exact(v:Value):af:=.atom (.exact v)
abbrev af.bA(a:List af):af:=.obj .bA a
abbrev af.iq(t:Nat)(v:af):af:=.obj (.iq t) [v]
abbrev af.fn(f:Fn)(first captured:List af):af:=.obj (.fn f first.length) (first++captured)
structure U(w:Nat)where
 n:Nat
 l:List (BitVec w)
 h:l.length=n
def U.of(l:List (BitVec w)):U w:=⟨l.length,l,rfl⟩
def U.set(v:U w)(a:Nat)(b:BitVec w):U w:=⟨v.n,v.l.set a b,by rw[lJ];exact v.h⟩
def U.app(v u:U w):U w:=⟨v.n+u.n,v.l++u.l,by rw[fB,v.h,u.h]⟩
def U.sub(v:U w)(a m:Nat):U w:=⟨m,(v.l.drop a++List.replicate m 0).take m,by simp⟩
def U.Bv{v:U w}{a m:Nat}(h:a+m≤v.n):(v.sub a m).l=(v.l.drop a).take m:=by
 have:=v.h
 show(v.l.drop a++List.replicate m 0).take m=_;rw[HO (by rw[D8];omega)]
def rN{a:Type}:List a→Nat→List a→List a|l,_,[]=>l|l,b,c::d=>rN (l.set b c) (b+1) d
def N9{c:Type}:∀(a l:List c) (b:Nat),(rN l b a).length=l.length|[],_,_=>rfl|d::a,l,b=>by rw[rN,N9 a,lJ]
def U.over(v:U w)(a:Nat)(u:U w):U w:=⟨v.n,rN v.l a u.l,by rw[N9];exact v.h⟩
def U.zero(w n:Nat):U w:=⟨n,List.replicate n 0,by simp⟩
inductive Data where
 |gen (l:List af)|aj (l:U 8)|eX (l:U 32)|bw (l:U 64)|spot (n ek:Nat) (x:af)|e9 (l:List Value) (t:List af)|lim (f:Nat→Bool→Bool) (l:U 64)
inductive Mode where
 |ro|own|bn
structure ah where
 data:Data
 mode:Mode
structure ai where
 H:List ah
 low:Nat
 dec:List Bool
 cond:List Bool
def ai.eU(S:ai)(b:Bool):ai:={S with cond:=b::S.cond}
def kJ:Int→Int→Bool|.ofNat a,.ofNat b=>Nat.ble a b|.ofNat _,.negSucc _=>false|.negSucc _,.ofNat _=>true|.negSucc a,.negSucc b=>Nat.ble b a
def kK:Int→Int→Bool|.ofNat a,.ofNat b=>Nat.beq a b|.ofNat _,.negSucc _=>false|.negSucc _,.ofNat _=>false|.negSucc a,.negSucc b=>Nat.beq b a
def Em(a b:Int):Bool:=kJ (a+1) b
def rO:IntKind→IntKind→Bool|.i8,.i8|.i16,.i16|.i32,.i32|.i64,.i64|.u8,.u8|.u16,.u16|.u32,.u32|.u64,.u64=>true|_,_=>false
def lo:IntKind→Int|.i8=> -128|.i16=> -32768|.i32=> -2147483648|.i64=> -9223372036854775808|_=>0
def hi:IntKind→Int|.i8=>127|.i16=>32767|.i32=>2147483647|.i64=>9223372036854775807|.u8=>255|.u16=>65535|.u32=>4294967295|.u64=>18446744073709551615
def qA(k:IntKind)(n:Int):Int:=
 match kJ (lo k) n with
 |true=>
  match kJ n (hi k)with
  |true=>n|false=>k.wrap n
 |false=>k.wrap n
def B.test(b:B)(S:ai):Option (Bool×ai):=
 match b with
 |.c b=>some (b,S)|.s b=>
  match S.dec with
  |d::r=>some (d,{S with dec:=r,cond:=(b==d)::S.cond})
  |[]=>none
def B.cj(b:B)(S:ai):Option ai:=
 match b with
 |.c b=>
  match b with
  |true=>some S|false=>none
 |.s b=>some (S.eU b)
def B.and(e d:B):B:=
 match e with
 |.c a=>
  match d with
  |.c b=>.c (a&&b)|.s b=>.s (a&&b)
 |.s a=>.s (a&&d.v)
def B.not:B→B|.c b=>.c !b|.s b=>.s !b
def Z.lt(e d:Z):B:=
 match e with
 |.c a=>
  match d with
  |.c b=>.c (Em a b)|.s b=>.s (decide (a<b))
 |.s a=>.s (decide (a<d.v))
def Z.le(e d:Z):B:=
 match e with
 |.c a=>
  match d with
  |.c b=>.c (kJ a b)|.s b=>.s (decide (a≤b))
 |.s a=>.s (decide (a≤d.v))
def Z.eq(e d:Z):B:=
 match e with
 |.c a=>
  match d with
  |.c b=>.c (kK a b)|.s b=>.s (a==b)
 |.s a=>.s (a==d.v)
def N.le(e d:N):B:=
 match e with
 |.c a=>
  match d with
  |.c b=>.c (Nat.ble a b)|.s b=>.s (decide (a≤b))
 |.s a=>.s (decide (a≤d.v))
def N.eq(e d:N):B:=
 match e with
 |.c a=>
  match d with
  |.c b=>.c (Nat.beq a b)|.s b=>.s (a==b)
 |.s a=>.s (a==d.v)
def N.toZ:N→Z|.c n=>.c n|.s n=>.s n
def Z.toN:Z→N|.c n=>.c n.toNat|.s n=>.s n.toNat
def N.En(f:Nat→Nat→Nat)(e d:N):N:=
 match e with
 |.c a=>
  match d with
  |.c b=>.c (f a b)|.s b=>.s (f a b)
 |.s a=>.s (f a d.v)
def N.add(a b:N):N:=N.En Nat.add a b
def N.sub(a b:N):N:=N.En Nat.sub a b
def N.min(a b:N):N:=N.En Nat.min a b
def N.ir(a:N)(n:Nat):N:=
 match a with
 |.c b=>.c (b*n)|.s b=>.s (b*n)
def y9(n:Nat)(k b:IntKind)(a:Int):Option (BitVec n):=
 match rO k b with
 |false=>none|true=>
  match a with
  |.ofNat a=>
   match Nat.blt a (2^n)with
   |true=>some (BitVec.ofNat n a)|false=>none
  |.negSucc _=>none
def bk.fE(v:bk):Option (BitVec 8):=
 match v with
 |.bP a=>some a|.int k z=>
  match z with
  |.c a=>y9 8 .u8 k a|.s _=>none
 |_=>none
def af.fE(v:af):Option (BitVec 8):=
 match v with
 |.num n=>n.fE|_=>none
def bk.mD(v:bk):Option (BitVec 16):=
 match v with
 |.cX a=>some a|.int k z=>
  match z with
  |.c a=>y9 16 .u16 k a|.s _=>none
 |_=>none
def af.mD(v:af):Option (BitVec 16):=
 match v with
 |.num n=>n.mD|_=>none
def bk.iu(v:bk):Option (BitVec 32):=
 match v with
 |.aF a=>some a|.int k z=>
  match z with
  |.c a=>y9 32 .u32 k a|.s _=>none
 |_=>none
def af.iu(v:af):Option (BitVec 32):=
 match v with
 |.num n=>n.iu|_=>none
def bk.fF(v:bk):Option (BitVec 64):=
 match v with
 |.av a=>some a|.int k z=>
  match z with
  |.c a=>y9 64 .u64 k a|.s _=>none
 |_=>none
def af.fF(v:af):Option (BitVec 64):=
 match v with
 |.num n=>n.fF|_=>none
def bk.z(v:bk):Z:=
 match v with
 |.int _ z=>z|.bP a=>.s a.toNat|.cX a=>.s a.toNat|.aF a=>.s a.toNat|.av a=>.s a.toNat
def af.bF(v:af):Option Z:=
 match v with
 |.num n=>some n.z|_=>none
def w7:Value→af
 |.bool b=>.bool (.c b)|.int k n=>.int k (.c n)|.string a=>.str a|.pointer none=>.mB|.slice none 0 0=>.cD|.nilIface=>.fD|.nilFunc=>.mC|.agg ⟨l⟩=>.agg (Bw l)|.tuple ⟨l⟩=>.bA (Bw l)|_=>.aa
 where Bw:List Value→List af
  |[]=>[]|v::r=>w7 v::Bw r
def qB(c:BinOp):Option (Z→Z→B):=
 match c with
 |.eql=>some fun a b=>a.eq b|.neq=>some fun a b=>(a.eq b).not|.lss=>some fun a b=>a.lt b|.leq=>some fun a b=>a.le b|.gtr=>some fun a b=>b.lt a|.geq=>some fun a b=>b.le a|_=>none
inductive Wu where
 |word (f:(n:Nat)→BitVec n→BitVec n→BitVec n)|div (f:(n:Nat)→BitVec n→BitVec n→BitVec n)|test (f:(n:Nat)→BitVec n→BitVec n→Bool)|no
def Ic(c:BinOp):Wu:=
 match c with
 |.add=>.word fun _ a b=>a+b|.sub=>.word fun _ a b=>a-b|.mul=>.word fun _ a b=>a*b|.quo=>.div fun _ a b=>a/b|.rem=>.div fun _ a b=>a%b|.and=>.word fun _ a b=>a&&&b|.or=>.word fun _ a b=>a|||b|.xor=>.word fun _ a b=>a^^^b|.andNot=>.word fun _ a b=>a&&&~~~b|.eql=>.test fun _ a b=>a==b|.neq=>.test fun _ a b=>a !=b|.lss=>.test fun _ a b=>decide (a.toNat<b.toNat)|.leq=>.test fun _ a b=>decide (a.toNat≤b.toNat)|.gtr=>.test fun _ a b=>decide (b.toNat<a.toNat)|.geq=>.test fun _ a b=>decide (b.toNat≤a.toNat)|_=>.no
def za(c:BinOp)(n:Nat)(mk:BitVec n→af)(b a:BitVec n)(S:ai):Option (af×ai):=
 match Ic c with
 |.word f=>some (mk (f n b a),S)|.div f=>some (mk (f n b a),S.eU (a !=0))|.test f=>some (.bool (.s (f n b a)),S)|.no=>none
def oD(mk:BitVec n→af)(c:BinOp)(a b:Option (BitVec n))(S:ai):Option (af×ai):=
 match a with
 |none=>none|some a=>
  match b with
  |none=>none|some b=>za c n mk a b S
def Ie(c:BinOp):Option ((n:Nat)→BitVec n→Nat→BitVec n):=
 match c with
 |.shl=>some fun _ a b=>a<<<b|.shr=>some fun _ a b=>a>>>b|_=>none
def Bx(a:BinOp)(n:Nat)(mk:BitVec n→af)(b:BitVec n)(c:Nat)(S:ai):Option (af×ai):=
 match Ie a with
 |some f=>some (mk (f n b c),S)|none=>none
def tc(mk:BitVec n→af)(b:BinOp)(d:BitVec n)(a:Z)(S:ai):Option (af×ai):=
 match((Z.c 0).le a).cj S with
 |none=>none|some S=>Bx b n mk d a.v.toNat S
def By(k:IntKind)(c:Unit→Int)(f:Nat→Nat→Nat)(a b:Int):Int:=
 match a with
 |.ofNat d=>
  match b with
  |.ofNat e=>
   match kJ a (hi k)with
   |true=>
    match kJ b (hi k)with
    |true=>.ofNat (f d e)|false=>c ()
   |false=>c ()
  |.negSucc _=>c ()
 |.negSucc _=>c ()
def Bz(d:BinOp):Option (IntKind→Int→Int→Option Z):=
 match d with
 |.add=>some fun k a b=>some (.c (qA k (a+b)))|.sub=>some fun k a b=>some (.c (qA k (a-b)))|.mul=>some fun k a b=>some (.c (qA k (a*b)))|.quo=>some fun k a b=>match kK b 0 with|true=>none|false=>some (.c (qA k (a.tdiv b)))
 |.rem=>some fun _ a b=>match kK b 0 with|true=>none|false=>some (.c (a.tmod b))
 |.and=>some fun k a b=>some (.c (By k (fun _=>k.wrap (BitVec.ofInt k.bits a&&&BitVec.ofInt k.bits b).toNat) Nat.land a b))|.or=>some fun k a b=>some (.c (By k (fun _=>k.wrap (BitVec.ofInt k.bits a|||BitVec.ofInt k.bits b).toNat) Nat.lor a b))|.xor=>some fun k a b=>some (.c (By k (fun _=>k.wrap (BitVec.ofInt k.bits a^^^BitVec.ofInt k.bits b).toNat) Nat.xor a b))|.andNot=>some fun k a b=>some (.c (k.wrap (BitVec.ofInt k.bits a&&&~~~ BitVec.ofInt k.bits b).toNat))|_=>none
def Oa(k:IntKind)(a b:Int):Int:=k.wrap (BitVec.ofInt k.bits a&&&BitVec.ofInt k.bits b).toNat
def bp(k:IntKind)(a b:Int):Int:=k.wrap (BitVec.ofInt k.bits a&&&~~~ BitVec.ofInt k.bits b).toNat
def Ob(k:IntKind)(a b:Int):Int:=k.wrap (BitVec.ofInt k.bits a|||BitVec.ofInt k.bits b).toNat
def Oc(k:IntKind)(a:Int)(n:Nat):Int:=k.wrap (a*2^n)
def BA(c:BinOp):Option (IntKind→Int→Int→ai→af×ai):=
 match c with
 |.add=>some fun k a b S=>(.int k (.s (a+b)),S.eU (decide (lo k≤a+b∧a+b≤hi k)))|.sub=>some fun k a b S=>(.int k (.s (a-b)),S.eU (decide (lo k≤a-b∧a-b≤hi k)))|.mul=>some fun k a b S=>(.int k (.s (a*b)),S.eU (decide (lo k≤a*b∧a*b≤hi k)))|.quo=>some fun k a b S=>(.int k (.s (a.tdiv b)),S.eU (decide (0≤a∧0<b∧a≤hi k)))|.rem=>some fun k a b S=>(.int k (.s (a.tmod b)),S.eU (decide (b≠0)))|.and=>some fun k a b S=>(.int k (.s (Oa k a b)),S.eU (decide (0≤b)))|.andNot=>some fun k a b S=>(.int k (.s (bp k a b)),S.eU (decide (0≤b)))|.or=>some fun k a b S=>(.int k (.s (Ob k a b)),S.eU (decide (lo k≤0)))|.xor=>some fun k a b S=>(.int k (.s ((a.toNat^^^b.toNat:Nat))),S.eU (decide (0≤a∧0≤b∧a≤hi k∧b≤hi k)))|_=>none
def uK(c:BinOp)(k:IntKind)(a b:Int)(S:ai):Option (af×ai):=
 match BA c with
 |some f=>some (f k a b S)|none=>none
def intArith(d:BinOp)(k:IntKind)(g e:Z)(S:ai):Option (af×ai):=
 match qB d with
 |some f=>some (.bool (f g e),S)|none=>
  match g with
  |.c a=>
   match e with
   |.c b=>
    match Bz d with
    |some f=>
     match f k a b with
     |some z=>some (.int k z,S)|none=>none
    |none=>none
   |.s b=>uK d k a b S
  |.s a=>
   match e with
   |.c b=>uK d k a b S|.s b=>uK d k a b S
def BB(c:BinOp)(k:IntKind)(a:Int)(n:Nat):Option Int:=
 match c with
 |.shl=>
  match a with
  |.ofNat b=>some (qA k (.ofNat (Nat.shiftLeft b (Nat.min n k.bits))))|a=>some (k.wrap (a*2^(Nat.min n k.bits)))
 |.shr=>
  match a with
  |.ofNat b=>some (.ofNat (Nat.shiftRight b (Nat.min n k.bits)))|a=>some (a.fdiv (2^(Nat.min n k.bits)))
 |_=>none
def zb(k:IntKind)(z:Z)(d:BinOp)(e:Z)(S:ai):Option (af×ai):=
 match e with
 |.s _=>none|.c b=>
  match kJ 0 b with
  |false=>none|true=>
   match z with
   |.c a=>
    match BB d k a b.toNat with
    |some r=>some (.int k (.c r),S)|none=>none
   |.s a=>
    match Nat.blt b.toNat k.bits with
    |false=>none|true=>
     match d with
     |.shl=>some (.int k (.s (Oc k a b.toNat)),S)|.shr=>some (.int k (.s (a/2^b.toNat)),S)|_=>none
def BC(a:bk)(b:BinOp)(c:Z)(S:ai):Option (af×ai):=
 match a with
 |.int k z=>zb k z b c S|.bP a=>tc .bP b a c S|.cX a=>tc .cX b a c S|.aF a=>tc .aF b a c S|.av a=>tc .av b a c S
def If:BinOp→Bool|.shl|.shr=>true|_=>false
def BD(k:IntKind)(a:Z)(c:bk)(d:BinOp)(S:ai):Option (af×ai):=
 match c with
 |.int e b=>
  match rO k e with
  |true=>intArith d k a b S|false=>none
 |.bP c=>oD .bP d (bk.int k a).fE (some c) S|.cX c=>oD .cX d (bk.int k a).mD (some c) S|.aF c=>oD .aF d (bk.int k a).iu (some c) S|.av c=>oD .av d (bk.int k a).fF (some c) S
def zc(b c:bk)(d:BinOp)(S:ai):Option (af×ai):=
 match b with
 |.int k a=>BD k a c d S|.bP b=>oD .bP d (some b) c.fE S|.cX b=>oD .cX d (some b) c.mD S|.aF b=>oD .aF d (some b) c.iu S|.av b=>oD .av d (some b) c.fF S
def binop(c:BinOp)(a b:af)(S:ai):Option (af×ai):=
 match a with
 |.num a=>
  match b with
  |.num b=>
   match If c with
   |true=>BC a c b.z S|false=>zc a b c S
  |_=>none
 |_=>none
def uL(k:IntKind)(n:Nat)(a b c d:af)(S:ai):Option (af×ai):=
 match k with
 |.u8=>some (a,S)|.u16=>some (b,S)|.u32=>some (c,S)|.u64=>some (d,S)|k=>some (.int k (.s n),S.eU (decide ((n:Int)≤hi k)))
def BE(n:Int)(k:IntKind)(S:ai):Option (af×ai):=
 match k with
 |.u8=>some (.bP (BitVec.ofInt 8 n),S)|.u16=>some (.cX (BitVec.ofInt 16 n),S)|.u32=>some (.aF (BitVec.ofInt 32 n),S)|.u64=>some (.av (BitVec.ofInt 64 n),S)|k=>some (.int k (.s n),S.eU (decide (lo k≤n∧n≤hi k)))
def w8(v:bk)(k:IntKind)(S:ai):Option (af×ai):=
 match v with
 |.int _ z=>
  match z with
  |.c n=>some (.int k (.c (qA k n)),S)|.s n=>BE n k S
 |.bP a=>uL k a.toNat (.bP a) (.cX (a.setWidth 16)) (.aF (a.setWidth 32)) (.av (a.setWidth 64)) S|.cX a=>uL k a.toNat (.bP (a.setWidth 8)) (.cX a) (.aF (a.setWidth 32)) (.av (a.setWidth 64)) S|.aF a=>uL k a.toNat (.bP (a.setWidth 8)) (.cX (a.setWidth 16)) (.aF a) (.av (a.setWidth 64)) S|.av a=>uL k a.toNat (.bP (a.setWidth 8)) (.cX (a.setWidth 16)) (.aF (a.setWidth 32)) (.av a) S
def w9(v:af)(k:IntKind)(S:ai):Option (af×ai):=
 match v with
 |.num n=>w8 n k S|_=>none
def zd(a:bk):Option af:=
 match a with
 |.int k z=>
  match z with
  |.c n=>some (.int k (.c (qA k (0-n))))|.s _=>none
 |.bP a=>some (.bP (0#8-a))|.cX a=>some (.cX (0#16-a))|.aF a=>some (.aF (0#32-a))|.av a=>some (.av (0#64-a))
def ze(a:bk):Option af:=
 match a with
 |.int k z=>
  match z with
  |.c n=>some (.int k (.c (k.wrap (BitVec.ofInt k.bits (if k.signed then -1 else k.max)^^^BitVec.ofInt k.bits n).toNat)))
  |.s _=>none
 |.bP a=>some (.bP (~~~a))|.cX a=>some (.cX (~~~a))|.aF a=>some (.aF (~~~a))|.av a=>some (.av (~~~a))
def unop(c:UnOp)(d:af):Option af:=
 match d with
 |.num n=>
  match c with
  |.neg=>zd n|.xor=>ze n|_=>none
 |.atom a=>
  match a with
  |.bool b=>
   match c with
   |.not=>some (.bool b.not)|_=>none
  |_=>none
 |_=>none
def aW{a:Type}:Nat→List a→Option a|_,[]=>none|0,b::_=>some b|n+1,_::r=>aW n r
def fc{a:Type}(v:a):Nat→List a→List a|_,[]=>[]|0,_::r=>v::r|n+1,b::r=>b::fc v n r
def nk{a:Type}(vs:List a):Nat→List a→Option (List a)
 |0,l=>
  match Nat.ble vs.length l.length with
  |true=>some (vs++l.drop vs.length)|false=>none
 |_+1,[]=>none|n+1,b::r=>
  match nk vs n r with
  |some r=>some (b::r)|none=>none
def td{a:Type}(n:Nat):Nat→List a→Option (List a)
 |0,l=>
  match Nat.ble n l.length with
  |true=>some (l.take n)|false=>none
 |_+1,[]=>none|b+1,_::r=>td n b r
def Data.len:Data→Nat|.gen l=>l.length|.aj l=>l.n|.eX l=>l.n|.bw l=>l.n|.spot n _ _=>n|.e9 l t=>l.length+t.length|.lim _ l=>l.n
def Data.js:Data→N|.gen l=>.c l.length|.aj l=>.s l.n|.eX l=>.s l.n|.bw l=>.s l.n|.spot n _ _=>.s n|.e9 l t=>.s (l.length+t.length)|.lim _ l=>.s l.n
def cU{a β:Type}(f:a→Option β):List a→Option (List β)
 |[]=>some []|b::r=>
  match f b with
  |none=>none|some c=>
   match cU f r with
   |none=>none|some d=>some (c::d)
def Data.j5:Data→Option (U 8)|.aj l=>some l|.gen l=>(cU af.fE l).map U.of|_=>none
def Data.oE:Data→Option (U 32)|.eX l=>some l|.gen l=>(cU af.iu l).map U.of|_=>none
def Data.oF:Data→Option (U 64)|.bw l=>some l|.gen l=>(cU af.fF l).map U.of|_=>none
def Data.mE(d:Data)(a:N)(S:ai):Option (af×ai):=
 match d with
 |.gen l=>
  match a with
  |.c n=>(aW n l).map (·,S)|.s _=>none
 |.aj l=>some (.bP (l.l.getD a.v 0#8),S.eU (decide (a.v<l.n)))|.eX l=>some (.aF (l.l.getD a.v 0#32),S.eU (decide (a.v<l.n)))|.bw l=>some (.av (l.l.getD a.v 0#64),S.eU (decide (a.v<l.n)))|.spot n b e=>some (e,S.eU (decide (a.v=b∧b<n)))|.e9 .. =>none|.lim f l=>some (.av (l.l.getD a.v 0#64),(S.eU (decide (a.v<l.n))).eU (f a.v false))
def Data.lf(d:Data)(a:N)(v:af)(S:ai):Option (Data×ai):=
 match d with
 |.gen l=>
  match a with
  |.c n=>
   match Nat.blt n l.length with
   |true=>some (.gen (fc v n l),S)|false=>none
  |.s _=>none
 |.aj l=>v.fE.map fun b=>(.aj (l.set a.v b),S.eU (decide (a.v<l.n)))|.eX l=>v.iu.map fun b=>(.eX (l.set a.v b),S.eU (decide (a.v<l.n)))|.bw l=>v.fF.map fun b=>(.bw (l.set a.v b),S.eU (decide (a.v<l.n)))|.spot .. =>none|.e9 .. =>none|.lim f l=>v.fF.map fun b=>(.lim f (l.set a.v b),(S.eU (decide (a.v<l.n))).eU (f a.v true))
def Data.kL(d:Data)(a n:N)(S:ai):Option (Data×ai):=
 match d with
 |.gen l=>
  match a with
  |.c a=>
   match n with
   |.c n=>(td n a l).map fun l=>(.gen l,S)|.s _=>none
  |.s _=>none
 |.aj l=>some (.aj (l.sub a.v n.v),S.eU (decide (a.v+n.v≤l.n)))|.eX l=>some (.eX (l.sub a.v n.v),S.eU (decide (a.v+n.v≤l.n)))|.bw l=>some (.bw (l.sub a.v n.v),S.eU (decide (a.v+n.v≤l.n)))|.spot .. =>none|.e9 .. =>none|.lim .. =>none
def over{a:Type}(l:List a)(b:Nat)(c:List a):List a:=l.take b++c++l.drop (b+c.length)
def Data.ju(d:Data)(b:N)(e:Data)(S:ai):Option (Data×ai):=
 match d with
 |.gen l=>
  match b with
  |.c b=>
   match e with
   |.gen a=>(nk a b l).map fun l=>(.gen l,S)|_=>none
  |.s _=>none
 |.aj l=>e.j5.map fun a=>(.aj (l.over b.v a),S.eU (decide (b.v+a.n≤l.n)))|.eX l=>e.oE.map fun a=>(.eX (l.over b.v a),S.eU (decide (b.v+a.n≤l.n)))|.bw l=>e.oF.map fun a=>(.bw (l.over b.v a),S.eU (decide (b.v+a.n≤l.n)))|.spot .. =>none|.e9 .. =>none|.lim .. =>none
def Data.words(d:Data):Option Data:=
 match d with
 |.gen _=>
  match d.j5 with
  |some v=>some (.aj v)|none=>
   match d.oE with
   |some v=>some (.eX v)|none=>
    match d.oF with
    |some v=>some (.bw v)|none=>none
 |_=>none
def mF:List af→List af×List af
 |[]=>([],[])|c::r=>
  match c.fE with
  |some _=>([],c::r)|none=>
   match mF r with
   |(a,b)=>(c::a,b)
def oG:List af→List (BitVec 8)×List af
 |[]=>([],[])|c::r=>
  match c.fE with
  |some w=>
   match oG r with
   |(a,b)=>(w::a,b)
  |none=>([],c::r)
structure uM where
 pre:List af
 row:U 8
 post:List af
def Data.mid(d:Data):Option uM:=
 match d with
 |.gen l=>
  match mF l with
  |(pre,r)=>
   match oG r with
   |(ws,post)=>some ⟨pre,U.of ws,post⟩
 |_=>none
def Eo(v:U 8)(n:Nat):List af:=(List.range n).map fun i=>.bP (v.l.getD i 0#8)
def uM.put(m:uM)(v:U 8):Data:=.gen (m.pre++(Eo v m.row.n++m.post))
def uM.at(m:uM)(a:N)(n:Nat)(S:ai):ai:=S.eU (decide (m.pre.length≤a.v∧a.v+n≤m.pre.length+m.row.n))
def Data.zf(d:Data)(a:N)(S:ai):Option (af×ai):=
 match d.mid with
 |some m=>some (.bP (m.row.l.getD (a.v-m.pre.length) 0#8),m.at a 1 S)|none=>none
def Data.Ep(d:Data)(a:N)(v:af)(S:ai):Option (Data×ai):=
 match d.mid with
 |some m=>
  match v.fE with
  |some b=>some (m.put (m.row.set (a.v-m.pre.length) b),m.at a 1 S)|none=>none
 |none=>none
def Data.qC(d:Data)(a n:N)(S:ai):Option (Data×ai):=
 match d.mid with
 |some m=>some (.aj (m.row.sub (a.v-m.pre.length) n.v),m.at a n.v S)|none=>none
def Data.BF(d:Data)(a:N)(c:Data)(S:ai):Option (Data×ai):=
 match d.mid with
 |some m=>
  match c.j5 with
  |some b=>some (m.put (m.row.over (a.v-m.pre.length) b),m.at a b.n S)|none=>none
 |none=>none
def Data.get(d:Data)(a:N)(S:ai):Option (af×ai):=
 match d.mE a S with
 |some r=>some r|none=>
  match d.words with
  |some d=>d.mE a S|none=>d.zf a S
def Data.set(d:Data)(a:N)(v:af)(S:ai):Option (Data×ai):=
 match d.lf a v S with
 |some r=>some r|none=>
  match d.words with
  |some d=>d.lf a v S|none=>d.Ep a v S
def Data.sub(d:Data)(a n:N)(S:ai):Option (Data×ai):=
 match d.kL a n S with
 |some r=>some r|none=>
  match d.words with
  |some d=>d.kL a n S|none=>d.qC a n S
def Data.over(d:Data)(a:N)(b:Data)(S:ai):Option (Data×ai):=
 match d.ju a b S with
 |some r=>some r|none=>
  match d.words with
  |some d=>d.ju a b S|none=>d.BF a b S
def Data.mG(d:Data)(n:Nat)(a:N)(S:ai):Option (List af×ai):=
 match d with
 |.gen l=>
  match a with
  |.c a=>(td n a l).map (·,S)|.s _=>none
 |.aj v=>some ((List.range n).map (fun i=>.bP (v.l.getD (a.v+i) 0#8)),S.eU (decide (a.v+n≤v.n)))|.eX v=>some ((List.range n).map (fun i=>.aF (v.l.getD (a.v+i) 0#32)),S.eU (decide (a.v+n≤v.n)))|.bw v=>some ((List.range n).map (fun i=>.av (v.l.getD (a.v+i) 0#64)),S.eU (decide (a.v+n≤v.n)))|.spot .. =>none|.e9 .. =>none|.lim .. =>none
def Data.cells(d:Data)(n:Nat)(a:N)(S:ai):Option (List af×ai):=
 match d.mG n a S with
 |some r=>some r|none=>
  match d.words with
  |some d=>d.mG n a S|none=>none
def Data.app(d b:Data):Option Data:=
 match d with
 |.gen l=>
  match b with
  |.gen a=>some (.gen (l++a))|.aj a=>(cU af.fE l).map fun l=>.aj ((U.of l).app a)|.eX a=>(cU af.iu l).map fun l=>.eX ((U.of l).app a)|.bw a=>(cU af.fF l).map fun l=>.bw ((U.of l).app a)|.spot .. =>none|.e9 .. =>none|.lim .. =>none
 |.aj l=>b.j5.map fun a=>.aj (l.app a)|.eX l=>b.oE.map fun a=>.eX (l.app a)|.bw l=>b.oF.map fun a=>.bw (l.app a)|.spot .. =>none|.e9 l t=>
  match b with
  |.gen a=>some (.e9 l (t++a))|_=>none
 |.lim .. =>none
def ai.read(S:ai)(b:Nat):Option Data:=
 match aW b S.H with
 |some ⟨d,m⟩=>
  match m with
  |.bn=>none|_=>some d
 |none=>none
def ai.write(S:ai)(b:Nat)(d:Data):Option ai:=
 match aW b S.H with
 |some ⟨_,m⟩=>
  match m with
  |.own=>some {S with H:=fc ⟨d,.own⟩ b S.H,low:=Nat.min S.low b}
  |_=>none
 |none=>none
def ai.kill(S:ai)(b:Nat):ai:={S with H:=fc ⟨.gen [],.bn⟩ b S.H,low:=Nat.min S.low b}
def ai.new(S:ai)(d:Data):Nat×ai:=(S.H.length,{S with H:=S.H++[⟨d,.own⟩]})
section
variable(P:Program)
def nq(t:TypeId):Option Bool:=
 match P.underlying t with
 |some (.struct _)|some (.array _ _)=>some true|some _=>some false|none=>none
def eg(t:TypeId):Option Nat:=
 match P.info? t with
 |some i=>some i.size|none=>none
def af.single(v:af):Bool:=
 match v with
 |.num _=>true|.ref _=>true|.atom a=>
  match a with
  |.aa=>false|.exact _=>false|_=>true
 |.agg _=>false|.obj t _=>
  match t with
  |.bA=>false|_=>true
def af.row(v:af):Option (List af):=
 match v with
 |.agg a=>some a|v=>
  match v.single with
  |true=>some [v]|false=>none
def zg:List af→Bool
 |[]=>true|v::r=>
  match v.single with
  |true=>zg r|false=>false
def mH(t:TypeId):Option (List af):=
 match P.info? t with
 |some i=>
  match i.zero with
  |some z=>
   match(w7 z).row with
   |some l=>
    match Nat.beq l.length i.size with
    |true=>some l|false=>none
   |none=>none
  |none=>none
 |none=>none
def uN(e:Nat→Option (List af))(a:af)(S:ai):Option (af×ai):=
 match a with
 |.ref (.ptr b c)=>
  match S.read b with
  |some d=>d.get c S|none=>none
 |.ref (.eC g c)=>
  match e g with
  |some l=>Data.get (.gen l) c S|none=>none
 |_=>none
def rP(f:Nat→Option (List af))(a:af)(n:Nat)(S:ai):Option (List af×ai):=
 match a with
 |.ref (.ptr b e)=>
  match S.read b with
  |some d=>d.cells n e S|none=>none
 |.ref (.eC g e)=>
  match e with
  |.c e=>
   match n with
   |0=>some ([],S)|n=>
    match f g with
    |some l=>(td n e l).map (·,S)|none=>none
  |.s _=>none
 |_=>none
def oH(b:Nat→Option (List af))(t:TypeId)(a:af)(S:ai):Option (af×ai):=
 match nq P t with
 |none=>none|some true=>
  match eg P t with
  |some n=>
   match rP b a n S with
   |some (l,S)=>some (.agg l,S)|none=>none
  |none=>none
 |some false=>uN b a S
def zh(t:TypeId)(a v:af)(S:ai):Option ai:=
 match a with
 |.ref (.ptr b e)=>
  match S.read b with
  |none=>none|some d=>
   match eg P t with
   |none=>none|some n=>
    match v with
    |.agg c=>
     match Nat.beq c.length n&&zg c with
     |true=>
      match d.over e (.gen c) S with
      |some (d,S)=>S.write b d|none=>none
     |false=>none
    |v=>
     match v.single with
     |true=>
      match Nat.beq n 1 with
      |true=>
       match d.set e v S with
       |some (d,S)=>S.write b d|none=>none
      |false=>none
     |false=>none
 |_=>none
def zi(t:TypeId):Option (TypeId×Nat):=
 match P.underlying t with
 |some (.slice a)=>(eg P a).map (a,·)|_=>none
def jM(z:Z)(l:Z):B:=B.and ((Z.c 0).le z) (z.lt l)
def zj(t:TypeId)(f i:af)(S:ai):Option (af×ai):=
 match i.bF with
 |none=>none|some z=>
  match P.underlying t with
  |some (.array n e)=>
   match eg P e with
   |none=>none|some a=>
    match(jM z (.c n)).cj S with
    |none=>none|some S=>
     match f with
     |.ref (.ptr b d)=>some (.ptr b (d.add (z.toN.ir a)),S)|.ref (.eC g d)=>some (.eC g (d.add (z.toN.ir a)),S)|_=>none
  |some (.slice e)=>
   match eg P e with
   |none=>none|some a=>
    match f with
    |.ref (.sl b d l _)=>
     match(jM z l.toZ).cj S with
     |some S=>some (.ptr b (d.add (z.toN.ir a)),S)|none=>none
    |.ref (.gs g d l)=>
     match(jM z l.toZ).cj S with
     |some S=>some (.eC g (d.add (z.toN.ir a)),S)|none=>none
    |.ref (.sm b l h)=>
     match Nat.beq h a with
     |true=>
      match(jM z l.toZ).cj S with
      |some S=>some (.ptr b ((N.c 0).add (z.toN.ir a)),S)|none=>none
     |false=>none
    |_=>none
  |_=>none
def bound(v:Option af)(a:N):Option Z:=
 match v with
 |none=>some a.toZ|some v=>v.bF
def gY(l h m:Z):B:=B.and (B.and ((Z.c 0).le l) (l.le h)) (h.le m)
def zk(n a:Nat)(b:Nat)(e:N)(lo hi f:Option af)(S:ai):Option (af×ai):=
 match bound lo (.c 0)with
 |none=>none|some l=>
  match bound hi (.c n)with
  |none=>none|some h=>
   match f with
   |some _=>none|none=>
    match S.read b with
    |none=>none|some d=>
     match((e.add (.c (n*a))).le d.js).cj S with
     |none=>none|some S=>
      match(gY l h (.c n)).cj S with
      |some S=>some (.sl b (e.add (l.toN.ir a)) (h.toN.sub l.toN) (some ((N.c n).sub l.toN)),S)|none=>none
def BG(b:Nat)(a len:N)(e:Option N)(lo hi d:Option af)(S:ai):Option (af×ai):=
 match bound lo (.c 0)with
 |none=>none|some l=>
  match bound hi len with
  |none=>none|some h=>
   match e with
   |none=>
    match d with
    |some _=>none|none=>
     match(gY l h len.toZ).cj S with
     |some S=>some (.sl b (a.add l.toN) (h.toN.sub l.toN) none,S)|none=>none
   |some c=>
    match d with
    |none=>
     match(gY l h c.toZ).cj S with
     |some S=>some (.sl b (a.add l.toN) (h.toN.sub l.toN) (some (c.sub l.toN)),S)|none=>none
    |some m=>
     match m.bF,hi with
     |none,_=>none|_,none=>none|some m,some _=>
      match(B.and (gY l h m) (m.le c.toZ)).cj S with
      |some S=>some (.sl b (a.add l.toN) (h.toN.sub l.toN) (some (m.toN.sub l.toN)),S)|none=>none
def xb(t:TypeId)(f:af)(lo hi d:Option af)(S:ai):Option (af×ai):=
 match P.underlying t with
 |some (.array n a)=>
  match f with
  |.ref (.ptr b e)=>
   match eg P a with
   |some 0=>none|some g=>zk n g b e lo hi d S|none=>none
  |_=>none
 |some (.slice a)=>
  match f with
  |.ref (.sl b e len i)=>
   match eg P a with
   |some 1=>BG b e len i lo hi d S|_=>none
  |.atom .cD=>
   match d,eg P a with
   |some _,_=>none|none,none=>none|none,some _=>
    match bound lo (.c 0)with
    |none=>none|some l=>
     match bound hi (.c 0)with
     |none=>none|some h=>
      match(gY l h (.c 0)).cj S with
      |some S=>some (.cD,S)|none=>none
  |_=>none
 |_=>none
def lg(a:af)(n:N)(S:ai):Option (Data×ai):=
 match a with
 |.ref (.sl b e _ _)=>
  match S.read b with
  |some d=>d.sub e n S|none=>none
 |.atom .cD=>some (.gen [],S)|.atom (.str f)=>
  match n with
  |.c n=>some (.gen ((f.data.toList.take n).map fun b=>.int .u8 (.c b.toNat)),S)|.s _=>none
 |_=>none
def Data.zl(d:Data):Bool:=
 match d with
 |.gen l=>zg l|.spot .. =>false|.e9 .. =>false|.lim .. =>false|_=>true
def js(v:af):Option N:=
 match v with
 |.ref (.sl _ _ l _)=>some l|.atom .cD=>some (.c 0)|.atom (.str a)=>some (.c a.size)|_=>none
def zm(b:Nat)(a l:N)(f:Option N)(n:N)(e:Data)(S:ai):Option (af×ai):=
 match f with
 |some C=>
  match C,l,n with
  |.c C,.c l,.c n=>
   match S.read b with
   |none=>none|some d=>
    match Nat.ble (l+n) C&&Nat.ble 1 C with
    |true=>
     match d.over (a.add (.c l)) e S with
     |some (d,S)=>
      match S.write b d with
      |some S=>some (.sl b a (.c (l+n)) f,S)|none=>none
     |none=>none
    |false=>
     match Nat.ble (l+n) C with
     |true=>none|false=>
     match d.sub a (.c l) S with
     |some (d,S)=>
      match d.app e with
      |some d=>some (.sl S.H.length (.c 0) (.c (l+n)) none,(S.new d).2)|none=>none
     |none=>none
  |C,l,n=>
   match((l.add n).le C).test S with
   |none=>none|some (true,S)=>
    match((N.c 1).le C).cj S with
    |none=>none|some S=>
     match S.read b with
     |none=>none|some d=>
      match d.over (a.add l) e S with
      |some (d,S)=>
       match S.write b d with
       |some S=>some (.sl b a (l.add n) (some C),S)|none=>none
      |none=>none
   |some (false,S)=>
    match S.read b with
    |none=>none|some d=>
     match d.sub a l S with
     |some (d,S)=>
      match d.app e with
      |some d=>some (.sl S.H.length (.c 0) (l.add n) none,(S.new d).2)|none=>none
     |none=>none
 |none=>
  match aW b S.H with
  |some ⟨d,m⟩=>
   match m with
   |.own=>
    match(B.and (a.eq (.c 0)) (l.eq (match l with|.c _=>.c d.len|.s _=>.s d.len))).cj S with
    |some S=>
     match d.app e with
     |some d=>some (.sl S.H.length (.c 0) (l.add n) none,((S.kill b).new d).2)|none=>none
    |none=>none
   |_=>none
  |none=>none
def N.fits(n:N):B:=n.le (.c 1099511627776)
def Er(d:Option TypeDesc):Bool:=
 match d with
 |some (.slice _)=>true|some .string=>true|_=>false
def BH(argTypes:List TypeId)(args:List af)(S:ai):Option (af×ai):=
 match argTypes with
 |[t,u]=>
  match zi P t with
  |some (d,1)=>
   match P.info? d,mH P d with
   |none,_=>none|_,none=>none|some i,some _=>
   match Nat.beq i.bytes 0 with
   |true=>none|false=>
   match Er (P.underlying u)with
   |false=>none|true=>
    match args with
    |[f,e]=>
     match js e with
     |none=>none|some n=>
      match lg e n S with
      |none=>none|some (a,S)=>
       match a.zl with
       |false=>none|true=>
       match f with
       |.atom .cD=>
        match n with
        |.c 0=>some (.cD,S)|n=>
         match(n.ir i.bytes).fits.cj S with
         |some S=>some (.sl S.H.length (.c 0) n none,(S.new a).2)|none=>none
       |.ref (.sl b g l h)=>
        match((l.add n).ir i.bytes).fits.cj S with
        |some S=>zm b g l h n a S|none=>none
       |_=>none
    |_=>none
  |_=>none
 |_=>none
def BI(e:af)(a bytes:Nat)(cs:List af)(S:ai):Option (af×ai):=
 match e with
 |.atom .cD=>
  match((N.c 1).ir bytes).fits.cj S with
  |some S=>some (.sm S.H.length (.c 1) a,(S.new (.gen cs)).2)|none=>none
 |.ref (.sm b l f)=>
  match Nat.beq f a with
  |false=>none|true=>
   match aW b S.H with
   |some ⟨d,m⟩=>
    match m with
    |.own=>
     match((l.ir a).eq (match l with|.c _=>.c d.len|.s _=>.s d.len)).cj S with
     |some S=>
      match((l.add (.c 1)).ir bytes).fits.cj S with
      |some S=>
       match d.app (.gen cs)with
       |some d=>some (.sm S.H.length (l.add (.c 1)) a,((S.kill b).new d).2)|none=>none
      |none=>none
     |none=>none
    |_=>none
   |none=>none
 |_=>none
def Ig(a:af)(d:Nat)(S:ai):Option (List af):=
 match a with
 |.ref (.sl b e l _)=>
  match e,l with
  |.c 0,.c 1=>
   match S.read b with
   |some (.gen cs)=>
    match Nat.beq cs.length d&&zg cs with
    |true=>some cs|false=>none
   |_=>none
  |_,_=>none
 |_=>none
def Ih(argTypes:List TypeId)(args:List af)(S:ai):Option (af×ai):=
 match argTypes with
 |[t,u]=>
  match zi P t with
  |some (b,a)=>
   match Nat.ble 2 a with
   |false=>none|true=>
   match P.info? b,mH P b with
   |none,_=>none|_,none=>none|some i,some _=>
   match Nat.beq i.bytes 0 with
   |true=>none|false=>
   match Er (P.underlying u)with
   |false=>none|true=>
    match args with
    |[c,d]=>
     match Ig d a S with
     |some cs=>BI c a i.bytes cs S|none=>none
    |_=>none
  |none=>none
 |_=>none
def BJ(argTypes:List TypeId)(args:List af)(S:ai):Option (af×ai):=
 match BH P argTypes args S with
 |some r=>some r|none=>Ih P argTypes args S
def zn(argTypes:List TypeId)(args:List af)(S:ai):Option (af×ai):=
 match argTypes with
 |t::_=>
  match zi P t with
  |some (_,1)=>
   match args with
   |[d,e]=>
    match js d with
    |none=>none|some l=>
     match js e with
     |none=>none|some m=>
      match lg e (m.min l) S with
      |none=>none|some (f,S)=>
       match f.zl with
       |false=>none|true=>
        match d with
        |.ref (.sl b g _ _)=>
         match S.read b with
         |none=>none|some a=>
          match a.over g f S with
          |some (a,S)=>
           match S.write b a with
           |some S=>some (.int .i64 (m.min l).toZ,S)|none=>none
          |none=>none
        |.atom .cD=>some (.int .i64 (.c 0),S)|_=>none
   |_=>none
  |_=>none
 |[]=>none
def xd(a:TypeId)(n:N):Option Data:=
 match n with
 |.c n=>
  match mH P a with
  |some z=>some (.gen ((List.replicate n z).flatten))|none=>none
 |.s n=>
  match mH P a with
  |some [z]=>
   match z with
   |.num (.int k (.c z))=>
    match kK z 0 with
    |false=>none|true=>
     match k with
     |.u8=>some (.aj (U.zero 8 n))|.u32=>some (.eX (U.zero 32 n))|.u64=>some (.bw (U.zero 64 n))|_=>none
   |_=>none
  |_=>none
def tf(t:TypeId)(l c:af)(S:ai):Option (af×ai):=
 match P.underlying t with
 |some (.slice a)=>
  match P.info? a with
  |none=>none|some i=>
   match Nat.beq i.size 0 with
   |true=>none|false=>
    match l.bF with
    |none=>none|some l=>
     match c.bF with
     |none=>none|some c=>
      match(gY l c (.c 1099511627776)).cj S with
      |none=>none|some S=>
       match(c.toN.ir i.bytes).fits.cj S with
       |none=>none|some S=>
        match xd P a c.toN with
        |some d=>some (.sl S.H.length (.c 0) l.toN (some c.toN),(S.new d).2)|none=>none
 |_=>none
def Es:List af→Bool
 |[]=>true|a::r=>
  match a with
  |.num n=>
   match n with
   |.int k z=>
    match k with
    |.u64=>
     match z with
     |.c z=>
      match kK z 0 with
      |true=>Es r|false=>false
     |.s _=>false
    |_=>false
   |_=>false
  |_=>false
def Et(t:TypeId)(l c:af)(S:ai):Option (af×ai):=
 match P.underlying t with
 |some (.slice a)=>
  match P.info? a with
  |none=>none|some i=>
   match mH P a with
   |none=>none|some z=>
    match Es z&&Nat.blt 0 i.size with
    |false=>none|true=>
     match l.bF with
     |none=>none|some l=>
      match c.bF with
      |none=>none|some c=>
       match(gY l c (.c 1099511627776)).cj S with
       |none=>none|some S=>
        match(c.toN.ir i.bytes).fits.cj S with
        |none=>none|some S=>some (.ref (.sm S.H.length l.toN i.size),(S.new (.bw (U.zero 64 (c.toN.v*i.size)))).2)
 |_=>none
def BK(t:TypeId)(l c:af)(S:ai):Option (af×ai):=
 match tf P t l c S with
 |some r=>some r|none=>Et P t l c S
def rQ(cells:List af):List (Nat×Nat×af)→Option (List af)
 |[]=>some cells|(b,size,v)::r=>
  match v.row with
  |some a=>
   match Nat.beq a.length size with
   |true=>
    match nk a b cells with
    |some cells=>rQ cells r|none=>none
   |false=>none
  |none=>none
def Ii(t:TypeId)(parts:List (Nat×af)):Option af:=
 match mH P t with
 |none=>none|some z=>
  match P.underlying t with
  |some (.struct fields)=>
   match cU (fun(f:Field)=>(eg P f.type).map fun a=>(f.offset,a)) fields.toList with
   |some places=>
    match cU (fun(p:Nat×af)=>(aW p.1 places).map fun q=>(q.1,q.2,p.2)) parts with
    |some b=>(rQ z b).map .agg|none=>none
   |none=>none
  |some (.array _ c)=>
   match eg P c with
   |some a=>(rQ z (parts.map fun p=>(p.1*a,a,p.2))).map .agg|none=>none
  |_=>none
def tg(t:TypeId)(len:Nat)(parts:List (Nat×af))(S:ai):Option (af×ai):=
 match zi P t with
 |some (b,a)=>
  match Nat.beq (len*a) 0 with
  |true=>none|false=>
   match Nat.ble (len*a) (2^24)with
   |false=>none|true=>
    match mH P b with
    |some z=>
     match rQ ((List.replicate len z).flatten) (parts.map fun p=>(p.1*a,a,p.2))with
     |some l=>some (.sl S.H.length (.c 0) (.c len) (some (.c len)),(S.new (.gen l)).2)|none=>none
    |none=>none
 |none=>none
def partOf(t:TypeId)(a:List af)(b:Nat):Option af:=
 match nq P t with
 |none=>none|some true=>
  match eg P t with
  |some c=>(td c b a).map .agg|none=>none
 |some false=>aW b a
def Ij(t:TypeId)(b:af)(f:Nat):Option af:=
 match P.underlying t with
 |some (.struct fields)=>
  match b with
  |.agg c=>
   match aW f fields.toList with
   |some a=>partOf P a.type c a.offset|none=>none
  |_=>none
 |_=>none
def Ik(t:TypeId)(e:af)(f:Nat):Option af:=
 match P.underlying t with
 |some (.struct fields)=>
  match aW f fields.toList with
  |some a=>
   match eg P a.type with
   |some 0=>none|some _=>
    match e with
    |.ref (.ptr b d)=>some (.ptr b (d.add (.c a.offset)))|.ref (.eC b d)=>some (.eC b (d.add (.c a.offset)))|_=>none
   |none=>none
  |none=>none
 |_=>none
def Il(a:ByteArray)(k:Int):BitVec 8:=BitVec.ofNat 8 (a.data.toList.getD k.toNat 0).toNat
def zo(t:TypeId)(e i:af)(S:ai):Option (af×ai):=
 match i.bF with
 |none=>none|some z=>
  match P.underlying t with
  |some (.array n d)=>
   match e with
   |.agg f=>
    match z with
    |.c z=>
     match kJ 0 z&&Em z n with
     |true=>
      match eg P d with
      |some a=>(partOf P d f (z.toNat*a)).map (·,S)|none=>none
     |false=>none
    |.s k=>
     match eg P d with
     |none=>none|some a=>
      match nq P d with
      |some false=>
       match cU af.fF f with
       |none=>none|some l=>
        match Nat.beq a 1&&Nat.beq l.length n with
        |true=>
         match(jM (.s k) (.c n)).cj S with
         |some S=>some (.av (l.getD k.toNat 0#64),S)|none=>none
        |false=>none
      |_=>none
   |_=>none
  |some .string=>
   match e with
   |.atom (.str a)=>
    match z with
    |.c z=>
     match kJ 0 z with
     |true=>
      match aW z.toNat a.data.toList with
      |some b=>some (.int .u8 (.c b.toNat),S)|none=>none
     |false=>none
    |.s k=>
     match(jM (.s k) (.c a.size)).cj S with
     |some S=>some (.bP (Il a k),S)|none=>none
   |_=>none
  |_=>none
def zp(t:TypeId)(a:af)(S:ai):Option (af×ai):=
 match P.underlying t with
 |some (.array n _)=>
  match n with
  |0=>none|n=>
   match a with
   |.ref (.sl b d l _)=>
    match(N.le (.c n) l).cj S with
    |some S=>some (.ptr b d,S)|none=>none
   |_=>none
 |_=>none
def Im(argTypes:List TypeId)(args:List af):Option af:=
 match argTypes with
 |t::_=>
  match args with
  |a::_=>
   match P.underlying t with
   |some (.array n _)=>some (.int .i64 (.c n))|some (.slice _)=>
    match a with
    |.ref (.sl _ _ l _)=>some (.int .i64 l.toZ)|.ref (.gs _ _ l)=>some (.int .i64 l.toZ)|.ref (.sm _ l _)=>some (.int .i64 l.toZ)|.atom .cD=>some (.int .i64 (.c 0))|_=>none
   |some .string=>
    match a with
    |.atom (.str b)=>some (.int .i64 (.c b.size))|_=>none
   |_=>none
  |[]=>none
 |[]=>none
def Io(argTypes:List TypeId)(args:List af):Option af:=
 match argTypes with
 |t::_=>
  match args with
  |a::_=>
   match P.underlying t with
   |some (.array n _)=>some (.int .i64 (.c n))|some (.slice _)=>
    match a with
    |.ref (.sl _ _ _ (some c))=>some (.int .i64 c.toZ)|.atom .cD=>some (.int .i64 (.c 0))|_=>none
   |_=>none
  |[]=>none
 |[]=>none
def min2(d:Bool)(e f:af):Option af:=
 match e with
 |.num (.int k a)=>
  match f with
  |.num (.int g b)=>
   match rO k g with
   |false=>none|true=>
    match(if d then a.lt b else b.lt a)with
    |.c t=>some (.int k (match t with|true=>b|false=>a))
    |.s t=>some (.int k (.s (if t then b.v else a.v)))
  |_=>none
 |_=>none
def Ip(d c:bk):Option B:=
 match d with
 |.int k a=>
  match c with
  |.int e b=>
   match rO k e with
   |true=>some (a.eq b)|false=>none
  |.bP c=>(bk.int k a).fE.map fun d=>.s (d==c)|.cX c=>(bk.int k a).mD.map fun d=>.s (d==c)|.aF c=>(bk.int k a).iu.map fun d=>.s (d==c)|.av c=>(bk.int k a).fF.map fun d=>.s (d==c)
 |.bP d=>c.fE.map fun c=>.s (d==c)|.cX d=>c.mD.map fun c=>.s (d==c)|.aF d=>c.iu.map fun c=>.s (d==c)|.av d=>c.fF.map fun c=>.s (d==c)
def Iq(a b:af):Option B:=
 match a with
 |.num a=>
  match b with
  |.num b=>Ip a b|_=>none
 |_=>none
def uO:List af→List af→Option B
 |[],d=>match d with|[]=>some (.c true)|_=>none
 |e::f,d=>
  match d with
  |[]=>none|g::d=>
   match Iq e g with
   |none=>none|some a=>
    match uO f d with
    |none=>none|some b=>some (B.and a b)
def Od(e d:B):B:=
 match e with
 |.c a=>
  match d with
  |.c b=>.c (a==b)|.s b=>.s (a==b)
 |.s a=>.s (a==d.v)
def Oe(t:TypeId)(g d:af):Option B:=
 match g with
 |.agg e=>
  match d with
  |.agg h=>
   match P.underlying t with
   |some (.array n f)=>
    match P.underlying f with
    |some (.int _)=>
     match eg P f with
     |some 1=>
      match Nat.beq e.length n with
      |true=>uO e h|false=>none
     |_=>none
    |_=>none
   |_=>none
  |_=>none
 |.atom (.bool a)=>
  match d with
  |.atom (.bool b)=>
   match P.underlying t with
   |some .bool=>some (Od a b)|_=>none
  |_=>none
 |.atom .fD=>
  match d with
  |.obj (.iq _) _=>
   match P.underlying t with
   |some (.interface _)=>some (.c false)|_=>none
  |_=>none
 |.obj (.iq _) _=>
  match d with
  |.atom .fD=>
   match P.underlying t with
   |some (.interface _)=>some (.c false)|_=>none
  |_=>none
 |_=>none
end
end
section
inductive dK where
 |normal|exit (id:Nat)|ret
structure aJ where
 vars:List af
 tmps:List (Nat×af)
structure Wv where
 v:af
 H:List ah
 dec:List Bool
 cond:List Bool
abbrev Spec:=List af→List ah→List Bool→Option Wv
abbrev cP:=aJ→ai→Option (dK×aJ×ai)
structure eJ where
 P:Program
 dA:Nat→Option (List af)
 an:FuncId→Nat
 eD:FuncId→List Nat
 dyn:FuncId→Nat→Bool
 spec:FuncId→Option Spec
 loop:FuncId→Nat→Option cP
 scope:FuncId→Bool
 gx:Nat→String→Option FuncId
 ext:FuncId→List af→Option af:=fun _ _=>none
def kM(t:Nat):List (Nat×af)→af
 |[]=>.aa|(k,v)::r=>
  match Nat.beq k t with
  |true=>v|false=>kM t r
def aJ.get(an:Nat)(a:aJ)(t:Nat):af:=
 match Nat.blt t an with
 |true=>
  match aW t a.vars with
  |some v=>v|none=>.aa
 |false=>kM t a.tmps
def aJ.put(an:Nat)(a:aJ)(d:Option Nat)(v:af):aJ:=
 match d with
 |none=>a|some t=>
  match Nat.blt t an with
  |true=>{a with vars:=fc v t a.vars}
  |false=>{a with tmps:=(t,v)::a.tmps}
def oI(t:Nat):List Nat→Bool
 |[]=>false|a::r=>
  match Nat.beq a t with
  |true=>true|false=>oI t r
def th(a:List Nat):List (Nat×af)→List (Nat×af)
 |[]=>[]|(k,v)::r=>
  match oI k a with
  |true=>(k,v)::th a r|false=>th a r
def Ir(b:Nat)(a:List Nat):List Nat:=
 match oI b a with
 |true=>a|false=>a++[b]
def Ww(r:Ref)(a:List Nat):List Nat:=
 match r with
 |.ptr b _=>Ir b a|.sl b _ _ _=>Ir b a|.eC _ _=>a|.gs _ _ _=>a|.sm b _ _=>Ir b a
mutual
def Wx:af→List Nat→List Nat|.num _,a=>a|.ref r,a=>Ww r a|.atom _,a=>a|.agg b,a=>uP b a|.obj _ b,a=>uP b a
def uP:List af→List Nat→List Nat|[],a=>a|v::r,a=>uP r (Wx v a)
end
def qD(b:Nat):List Nat→Nat→Option Nat
 |[],_=>none|a::r,i=>
  match Nat.beq a b with
  |true=>some i|false=>qD b r (i+1)
def toR(d:List Nat)(r:Ref):Option Ref:=
 match r with
 |.ptr b a=>
  match qD b d 0 with
  |some i=>some (.ptr i a)|none=>none
 |.sl b a l c=>
  match qD b d 0 with
  |some i=>some (.sl i a l c)|none=>none
 |.eC g a=>some (.eC g a)|.gs g a l=>some (.gs g a l)|.sm b l e=>
  match qD b d 0 with
  |some i=>some (.sm i l e)|none=>none
mutual
def toV(c:List Nat):af→Option af
 |.num n=>some (.num n)|.ref r=>
  match toR c r with
  |some r=>some (.ref r)|none=>none
 |.atom a=>some (.atom a)|.agg b=>
  match toL c b with
  |some b=>some (.agg b)|none=>none
 |.obj t b=>
  match toL c b with
  |some b=>some (.obj t b)|none=>none
def toL(a:List Nat):List af→Option (List af)
 |[]=>some []|v::r=>
  match toV a v with
  |some v=>
   match toL a r with
   |some r=>some (v::r)|none=>none
  |none=>none
end
def toD(a:List Nat)(d:Data):Option Data:=
 match d with
 |.gen l=>
  match toL a l with
  |some l=>some (.gen l)|none=>none
 |.spot n c b=>
  match toV a b with
  |some b=>some (.spot n c b)|none=>none
 |.e9 l t=>
  match toL a t with
  |some t=>some (.e9 l t)|none=>none
 |d=>some d
def Wy(f:Nat→Nat)(r:Ref):Ref:=
 match r with
 |.ptr b a=>.ptr (f b) a|.sl b a l c=>.sl (f b) a l c|.eC g a=>.eC g a|.gs g a l=>.gs g a l|.sm b l d=>.sm (f b) l d
mutual
def oJ(f:Nat→Nat):af→af|.num n=>.num n|.ref r=>.ref (Wy f r)|.atom a=>.atom a|.agg b=>.agg (lN f b)|.obj t b=>.obj t (lN f b)
def lN(f:Nat→Nat):List af→List af|[]=>[]|v::r=>oJ f v::lN f r
end
def Data.refs(d:Data)(a:List Nat):List Nat:=
 match d with
 |.gen l=>uP l a|.spot _ _ b=>uP [b] a|.e9 _ t=>uP t a|_=>a
def Data.iF(f:Nat→Nat)(d:Data):Data:=
 match d with
 |.gen l=>.gen (lN f l)|.spot n a b=>.spot n a (oJ f b)|.e9 l t=>.e9 l (lN f t)|d=>d
def iY(a:List ah)(b:Nat):ah:=
 match aW b a with
 |some k=>k|none=>⟨.gen [],.bn⟩
def Is(c:List ah):Nat→Nat→List Nat→List Nat
 |0,_,a=>a|n+1,i,a=>
  match aW i a with
  |none=>a|some b=>Is c n (i+1) ((iY c b).data.refs a)
def xe(a:List ah)(c:List Nat):List Nat→Option (List ah)
 |[]=>some []|b::r=>
  match aW b a with
  |none=>none|some ⟨d,m⟩=>
   match toD c d with
   |none=>none|some d=>
    match xe a c r with
    |some e=>some (⟨d,m⟩::e)|none=>none
def xg(a:List Nat)(base:Nat)(i:Nat):Nat:=
 match aW i a with
 |some b=>b|none=>base+(i-a.length)
def uQ(f:Nat→Nat):List ah→List ah|[]=>[]|⟨d,m⟩::a=>⟨d.iF f,m⟩::uQ f a
def uR(f:Nat→Nat):List Nat→List ah→List ah→Option (List ah)
 |[],c,a=>some (a++uQ f c)|_::_,[],_=>none|b::e,⟨d,m⟩::c,a=>
  match(iY a b).mode with
  |.own=>uR f e c (fc ⟨d.iF f,m⟩ b a)|_=>uR f e c a
def zq(a:List ah):List Nat→Nat→Nat
 |[],l=>l|b::c,l=>
  match(iY a b).mode with
  |.own=>zq a c (Nat.min l b)|_=>zq a c l
def BL:List Nat→Bool
 |[]=>true|a::r=>
  match oI a r with
  |true=>false|false=>BL r
def BM(c:Spec)(args:List af)(S:ai):Option (af×ai):=
 let a:=Is S.H 100 0 (uP args [])
 match BL a with
 |false=>none|true=>
  match toL a args with
  |none=>none|some args=>
   match xe S.H a a with
   |none=>none|some b=>
    match c args b S.dec with
    |none=>none|some r=>
     let f:=xg a S.H.length
     match uR f a r.H S.H with
     |none=>none|some b=>some (oJ f r.v,{H:=b,low:=zq S.H a S.low,dec:=r.dec,cond:=r.cond++S.cond})
section
variable(C:eJ)
def aJ.ev(an:Nat)(a:aJ)(b:Operand):af:=
 match b with
 |.tmp t=>a.get an t|.const v=>w7 v|.global g=>.eC (2*g) (.c 0)|.func f=>.fn (.func f) [] []
def isConst:Operand→Bool|.const _=>true|_=>false
def lO(ev:Operand→af):List Operand→List af|[]=>[]|a::r=>ev a::lO ev r
def oK(ev:Operand→af):Option Operand→Option af|none=>none|some a=>some (ev a)
def pP(ev:Operand→af):List (Nat×Operand)→List (Nat×af)|[]=>[]|(i,a)::r=>(i,ev a)::pP ev r
def val(S:ai):Option af→Option (af×ai)|none=>none|some v=>some (v,S)
def Eu(v:af):Bool:=
 match v with
 |.atom .fD=>true|_=>false
def BN(P:Program)(t:TypeId)(k:Bool)(a b:af):Option B:=
 match Eu a&&Eu b with
 |true=>
  match k with
  |true=>
   match P.underlying t with
   |some (.interface _)=>some (.c true)|_=>none
  |false=>none
 |false=>Oe P t a b
def zu(P:Program)(c:BinOp)(t:TypeId)(d e:Operand)(a b:af)(S:ai):Option (af×ai):=
 match binop c a b S with
 |some r=>some r|none=>
  match BN P t (isConst d||isConst e) a b with
  |none=>none|some r=>
   match c with
   |.eql=>some (.bool r,S)|.neq=>some (.bool r.not,S)|_=>none
def BO(P:Program)(b:Builtin)(argTypes:List TypeId)(args:List af)(S:ai):Option (af×ai):=
 match b with
 |.len=>val S (Im P argTypes args)|.cap=>val S (Io P argTypes args)|.append=>BJ P argTypes args S|.copy=>zn P argTypes args S|.min=>
  match args with
  |[a,c]=>val S (min2 false a c)|_=>none
 |.max=>
  match args with
  |[a,c]=>val S (min2 true a c)|_=>none
 |_=>none
def BP(c a b:af)(S:ai):Option (af×ai):=
 match c with
 |.atom (.bool t)=>
  match t.test S with
  |some (true,S)=>some (a,S)|some (false,S)=>some (b,S)|none=>none
 |_=>none
def BQ(a:TypeId)(S:ai):Option (af×ai):=
 match mH C.P a with
 |some z=>some (.ptr S.H.length (.c 0),(S.new (.gen z)).2)|none=>none
def BR(v:af)(S:ai):Option (af×ai):=
 match v.row with
 |some l=>some (.ptr S.H.length (.c 0),(S.new (.gen l)).2)|none=>none
def Ev(r:Option ai):Option (af×ai):=
 match r with
 |some S=>some (.aa,S)|none=>none
def BS(gx:Nat→String→Option FuncId)(v:af)(S:ai):Option (af×ai):=
 match v with
 |.ref (.ptr b a)=>some (.ptr b a,S)|.ref (.eC b a)=>some (.eC b a,S)|.obj c d=>
  match c with
  |.fn f n=>
   match f with
   |.method name=>
    match n with
    |1=>
     match d with
     |[e]=>
      match e with
      |.obj g h=>
       match g with
       |.iq t=>
        match h with
        |[i]=>
         match i with
         |.ref (.ptr b a)=>
          match gx t name with
          |some _=>some (.obj (.fn (.method name) 1) [.obj (.iq t) [.ref (.ptr b a)]],S)|none=>none
         |_=>none
        |_=>none
       |_=>none
      |_=>none
     |_=>none
    |_=>none
   |_=>none
  |_=>none
 |_=>none
def zv(a:TypeId)(same:Bool)(v:af)(S:ai):Option (af×ai):=
 match same with
 |false=>none|true=>
  match C.P.underlying a with
  |some (.int .u8)=>
   match v with
   |.ref (.sl b _ (.c (_+1)) _)=>
    match aW b S.H with
    |some ⟨.lim ..,.own⟩=>none|some ⟨_,.own⟩=>some (v,S)|_=>none
   |_=>none
  |_=>none
def zw(a b:TypeId)(v:af)(S:ai):Option (af×ai):=
 match C.P.underlying a with
 |none=>none|some _=>
  match C.P.underlying b with
  |some (.int k)=>w9 v k S|some (.slice c)=>zv C c (Nat.beq a b) v S|_=>none
def BT(t:TypeId)(v:af)(S:ai):Option (af×ai):=
 match C.P.underlying t with
 |some (.interface _)=>none|none=>none|some _=>some (.iq t v,S)
def BU(v:af)(i:Nat)(S:ai):Option (af×ai):=
 match v with
 |.obj .bA a=>val S (aW i a)|_=>none
def xh(c:Call)(ev:Operand→af)(S:ai):Option (af×ai):=
 match c.callee with
 |.builtin b=>BO C.P b c.argTypes.toList (lO ev c.args.toList) S|_=>none
inductive It where
 |run (f:(Operand→af)→ai→Option (af×ai))|call (c:Call)
def nt(e:Op):It:=
 match e with
 |.move d=>.run fun ev S=>some (ev d,S)|.assign d=>.run fun ev S=>some (ev d,S)|.pick c a b=>.run fun ev S=>BP (ev c) (ev a) (ev b) S|.alloc j=>.run fun _ S=>BQ C j S|.box _ v=>.run fun ev S=>BR (ev v) S|.build t g=>.run fun ev S=>val S (Ii C.P t (pP ev g.toList))|.buildSlice t n g=>.run fun ev S=>tg C.P t n (pP ev g.toList) S|.load t a=>.run fun ev S=>oH C.P C.dA t (ev a) S|.store t a d=>.run fun ev S=>Ev (zh C.P t (ev a) (ev d) S)|.nilCheck d=>.run fun ev S=>BS C.gx (ev d) S|.binOp e t d h _=>.run fun ev S=>zu C.P e t d h (ev d) (ev h) S|.unOp e _ d=>.run fun ev S=>val S (unop e (ev d))|.convert k m d=>.run fun ev S=>zw C k m (ev d) S|.sliceToArrayPointer t d=>.run fun ev S=>zp C.P t (ev d) S|.makeInterface t d=>.run fun ev S=>BT C t (ev d) S|.makeFunc f a b=>.run fun ev S=>some (.fn f (lO ev a.toList) (lO ev b.toList),S)|.makeSlice t l c=>.run fun ev S=>BK C.P t (ev l) (ev c) S|.slice t d lo hi o=>.run fun ev S=>xb C.P t (ev d) (oK ev lo) (oK ev hi) (oK ev o) S|.fieldAddr t d f=>.run fun ev S=>val S (Ik C.P t (ev d) f)|.field t d f=>.run fun ev S=>val S (Ij C.P t (ev d) f)|.indexAddr t d i=>.run fun ev S=>zj C.P t (ev d) (ev i) S|.index t d i=>.run fun ev S=>zo C.P t (ev d) (ev i) S|.extract t i=>.run fun ev S=>BU (ev t) i S|.call c=>.call c|_=>.run fun _ _=>none
def callee(ev:Operand→af)(c:Call):Option (FuncId×List af):=
 match c.callee with
 |.value f=>
  match ev f with
  |.obj (.fn (.func f) n) a=>some (f,a.take n++lO ev c.args.toList++a.drop n)|_=>none
 |.invoke r m=>
  match ev r with
  |.obj (.iq t) [v]=>
   match C.gx t m with
   |some f=>some (f,v::lO ev c.args.toList)|none=>none
  |_=>none
 |.builtin _=>none
def mI(a:List Oper)(ev:Operand→af)(g:Option (Nat×Bool))(S:ai):Option (Bool×ai):=
 match g with
 |none=>some (true,S)|some (j,c)=>
  match aW j a with
  |none=>none|some e=>
   match e.dst with
   |none=>none|some d=>
    match ev (.tmp d)with
    |.atom (.bool b)=>
     match b.test S with
     |some (t,S)=>some (t==c,S)|none=>none
    |.obj .bA []=>some (false,S)|_=>none
abbrev gd:=FuncId→List af→ai→Option (af×ai)
def BV:Callee→Bool|.builtin _=>true|_=>false
def uS(c:Call)(call:gd)(ev:Operand→af)(S:ai):Option (af×ai):=
 match BV c.callee with
 |true=>xh C c ev S|false=>
  match callee C ev c with
  |some (f,args)=>
   match C.ext f args with
   |some v=>some (v,S)|none=>call f args S
  |none=>none
def dZ(call:gd)(ev:Operand→af)(a:Op)(S:ai):Option (af×ai):=
 match nt C a with
 |.run f=>f ev S|.call c=>uS C c call ev S
def tj(call:gd)(an:Nat)(c:List Oper):List Oper→aJ→ai→Option (aJ×ai)
 |[],a,S=>some (a,S)|b::r,a,S=>
  match mI c (a.ev an) b.guard S with
  |none=>none|some (false,S)=>tj call an c r (a.put an b.dst (.obj .bA [])) S|some (true,S)=>
   match dZ C call (a.ev an) b.op S with
   |none=>none|some (v,S)=>tj call an c r (a.put an b.dst v) S
inductive g8 where
 |load (b:Nat)|xj (low:Nat)|one (b:Nat)|cell (b o:Nat)|span (b p q:Nat)
def rR(v:af):Option Nat:=
 match v with
 |.ref (.ptr b _)=>some b|_=>none
def Ew(v:af):Option Nat:=
 match v with
 |.ref (.sl b _ _ _)=>some b|_=>none
def BW(P:Program)(t:TypeId):Bool:=
 match P.underlying t with
 |some (.array _ _)=>true|_=>false
def mJ(P:Program)(ev:Operand→af)(b:Op):Option Nat:=
 match b with
 |.load _ a=>rR (ev a)|.slice t a _ _ _=>
  match BW P t with
  |true=>rR (ev a)|false=>none
 |.convert c d e=>
  match Nat.beq c d with
  |true=>Ew (ev e)|false=>none
 |_=>none
def bQ:Nat:=1000000000
def kN:Op→Bool
 |.store .. =>true|.call c=>
  match c.callee with
  |.builtin b=>
   match b with
   |.len|.cap|.min|.max=>false|_=>true
  |_=>true
 |.box .. =>true|_=>false
def gf:Op→Bool|.alloc _=>true|.makeSlice .. =>true|.buildSlice .. =>true|_=>false
def tn(ev:Operand→af)(f:Op)(bF:Nat)(S:ai):Option (af×ai):=
 match f with
 |.alloc g=>
  match mH C.P g with
  |some z=>some (.ptr bF (.c 0),{S with H:=fc ⟨.gen z,.own⟩ bF S.H})
  |none=>none
 |.makeSlice t l c=>
  match tf C.P t (ev l) (ev c) {S with H:=[]}with
  |some (b,a)=>
   match b,a.H with
   |.ref (.sl _ d n e),[k]=>some (.sl bF d n e,{a with H:=fc k bF S.H})
   |_,_=>none
  |none=>none
 |.buildSlice t n h=>
  match tg C.P t n (pP ev h.toList) {S with H:=[]}with
  |some (b,a)=>
   match b,a.H with
   |.ref (.sl _ d m e),[k]=>some (.sl bF d m e,{a with H:=fc k bF S.H})
   |_,_=>none
  |none=>none
 |_=>none
def iG(dyn:Bool)(S:ai):ai:=
 match dyn with
 |true=>{S with low:=bQ}
 |false=>S
def Ex(dyn:Bool)(S a:ai):ai:=
 match dyn with
 |true=>{a with low:=Nat.min S.low a.low}
 |false=>a
def BX(ev:Operand→af)(b:Op):Option Nat:=
 match b with
 |.store _ a _=>rR (ev a)|_=>none
def tq(P:Program)(ev:Operand→af)(e:Op)(S:ai):Option (Nat×Nat):=
 match e with
 |.load t a=>
  match nq P t with
  |some false=>
   match ev a with
   |.ref (.ptr b (.c d))=>
    match aW b S.H with
    |some ⟨.gen l,_⟩=>
     match aW d l with
     |some _=>some (b,d)|none=>none
    |_=>none
   |_=>none
  |_=>none
 |_=>none
def Iu(a:af):Bool:=
 match a with
 |.ref (.sl _ _ (.s _) _)=>true|.atom .cD=>true|_=>false
def rS(ev:Operand→af)(a:Op)(S:ai):Option (Nat×Nat×Nat):=
 match a with
 |.call c=>
  match c.callee with
  |.builtin e=>
   match e with
   |.copy=>
    match c.args.toList with
    |[d,f]=>
     match ev d with
     |.ref (.sl b _ _ _)=>
      match Iu (ev f)with
      |true=>
       match aW b S.H with
       |some ⟨.gen l,_⟩=>
        match(Data.gen l).words with
        |some _=>none|none=>
         match mF l with
         |(pre,r)=>
          match oG r with
          |(ws,_)=>some (b,pre.length,pre.length+ws.length)
       |_=>none
      |false=>none
     |_=>none
    |_=>none
   |_=>none
  |_=>none
 |_=>none
def oL(P:Program)(dyn:Bool)(ev:Operand→af)(a:Op)(S c:ai):Option g8:=
 match dyn with
 |false=>none|true=>
  match kN a with
  |true=>
   match BX ev a with
   |some b=>some (.one b)|none=>
    match rS ev a S with
    |some (b,p,q)=>some (.span b p q)|none=>some (.xj (Nat.min c.low S.H.length))
  |false=>
   match tq P ev a S with
   |some (b,d)=>some (.cell b d)|none=>
    match mJ P ev a with
    |some b=>some (.load b)|none=>none
def stepW(call:gd)(an:Nat)(dyn:Bool)(d:List Oper)(bF:Nat)(a:Oper)(b:aJ)(S:ai):Option (aJ×ai×Option g8):=
 match mI d (b.ev an) a.guard S with
 |none=>none|some (false,S)=>some (b.put an a.dst (.obj .bA []),S,none)|some (true,S)=>
  match gf a.op with
  |true=>
   match tn C (b.ev an) a.op bF S with
   |none=>none|some (v,S)=>some (b.put an a.dst v,S,none)
  |false=>
   match dZ C call (b.ev an) a.op (iG dyn S)with
   |none=>none|some (v,c)=>some (b.put an a.dst v,Ex dyn S c,oL C.P dyn (b.ev an) a.op S c)
def Ey(a:Oper)(bF:Nat):Nat:=
 match gf a.op with
 |true=>bF+1|false=>bF
def BY(i:Nat)(a:Option g8)(b:List (Nat×g8)):List (Nat×g8):=
 match a with
 |some a=>(i,a)::b|none=>b
def uT(call:gd)(an:Nat)(dyn:Bool)(b:List Oper):List Oper→Nat→Nat→aJ→ai→Option (aJ×ai×List (Nat×g8))
 |[],_,_,a,S=>some (a,S,[])|c::r,i,bF,a,S=>
  match stepW C call an dyn b bF c a S with
  |none=>none|some (a,S,d)=>
   match uT call an dyn b r (i+1) (Ey c bF) a S with
   |none=>none|some (a,S,e)=>some (a,S,BY i d e)
def iH:List Oper→Nat
 |[]=>0|a::r=>
  match gf a.op with
  |true=>iH r+1|false=>iH r
def mK:Nat→List ah|0=>[]|n+1=>⟨.gen [],.bn⟩::mK n
def uU(S:ai)(n:Nat):ai:=
 match n with
 |0=>S|n+1=>{S with H:=S.H++mK (n+1)}
def zx(b:Nat)(a:g8):Bool:=
 match a with
 |.xj l=>Nat.ble l b|.one c=>Nat.beq c b|.span c _ _=>Nat.beq c b|.load _=>false|.cell .. =>false
def zy(b a:Nat)(d:g8):Bool:=
 match d with
 |.xj l=>Nat.ble l b|.one c=>Nat.beq c b|.span c p q=>Nat.beq c b&&(Nat.ble p a&&Nat.blt a q)|.load _=>false|.cell .. =>false
def Og(a:g8):Bool:=
 match a with
 |.load _=>true|.cell .. =>true|_=>false
def pQ(eY:Nat→Nat)(i:Nat)(a:g8)(j:Nat)(c:g8):Bool:=
 match a with
 |.load b=>zx b c&& !(eY j).testBit i|.cell b d=>zy b d c&& !(eY j).testBit i|a=>
  match c with
  |.load b=>zx b a&& !(eY j).testBit i|.cell b d=>zy b d a&& !(eY j).testBit i|_=>false
def clash(eY:Nat→Nat)(i:Nat)(a:g8):List (Nat×g8)→Bool
 |[]=>false|(j,b)::r=>
  match pQ eY i a j b with
  |true=>true|false=>clash eY i a r
def zz(eY:Nat→Nat):List (Nat×g8)→Bool
 |[]=>false|(i,a)::r=>
  match clash eY i a r with
  |true=>true|false=>zz eY r
def BZ(a:Array Oper)(i:Nat):Nat:=(CheckFast.beforeF a).getD i 0
def bY:Code→Option Nat|.region id _ _=>some id|.seq a _=>bY a|.block _ a=>bY a|.cond _ a _=>bY a|_=>none
structure Env where
 call:gd
 an:Nat
 Of:List Nat
 dyn:Nat→Bool
 lo:Nat→Option cP
def B0(id:Nat)(c:List Oper)(eY:Nat→Nat)(d:Bool)(b:Env)(a:aJ)(S:ai):Option (dK×aJ×ai):=
 match d with
 |false=>
  match tj C b.call b.an c c a S with
  |some (a,S)=>some (.normal,{a with tmps:=th b.Of a.tmps},S)
  |none=>none
 |true=>
  match uT C b.call b.an (b.dyn id) c c 0 S.H.length a (uU S (iH c))with
  |some (a,S,e)=>
   match zz eY e with
   |true=>none|false=>some (.normal,{a with tmps:=th b.Of a.tmps},S)
  |none=>none
abbrev fR:=Env→aJ→ai→Option (dK×aJ×ai)
def Oi(a b:fR)(e:Env)(c:aJ)(S:ai):Option (dK×aJ×ai):=
 match a e c S with
 |none=>none|some (d,c,S)=>
  match d with
  |.normal=>b e c S|d=>some (d,c,S)
def Oj(e:Operand)(a b:fR)(c:Env)(d:aJ)(S:ai):Option (dK×aJ×ai):=
 match d.ev c.an e with
 |.atom (.bool t)=>
  match t.test S with
  |some (true,S)=>a c d S|some (false,S)=>b c d S|none=>none
 |_=>none
def Ok(id:Nat)(b:fR)(d:Env)(a:aJ)(S:ai):Option (dK×aJ×ai):=
 match b d a S with
 |none=>none|some (c,a,S)=>
  match c with
  |.exit i=>
   match Nat.beq i id with
   |true=>some (.normal,a,S)|false=>some (.exit i,a,S)
  |c=>some (c,a,S)
def Iv(e:Option Nat)(b again:fR)(c:Env)(a:aJ)(S:ai):Option (dK×aJ×ai):=
 match e.bind c.lo with
 |some f=>f a S|none=>
  match b c a S with
  |none=>none|some (d,a,S)=>
   match d with
   |.normal=>again c a S|d=>some (d,a,S)
structure Wz where
 run:fR
def jv:Nat→Code→Wz
 |0,_=>⟨fun _ _ _=>none⟩|n+1,c=>
  match c with
  |.skip=>⟨fun _ d S=>some (.normal,d,S)⟩|.region id g h=>⟨B0 C id g.toList (BZ g) h⟩|.seq a b=>⟨Oi (fun e d S=>match jv n a with|⟨f⟩=>f e d S) (fun e d S=>match jv n b with|⟨f⟩=>f e d S)⟩
  |.cond i a b=>⟨Oj i (fun e d S=>match jv n a with|⟨f⟩=>f e d S) (fun e d S=>match jv n b with|⟨f⟩=>f e d S)⟩
  |.block id b=>⟨Ok id (fun e d S=>match jv n b with|⟨f⟩=>f e d S)⟩
  |.loop b=>⟨Iv (bY b) (fun e d S=>match jv n b with|⟨f⟩=>f e d S) (fun e d S=>match jv n (.loop b)with|⟨f⟩=>f e d S)⟩
  |.exit id=>⟨fun _ d S=>some (.exit id,d,S)⟩|.ret=>⟨fun _ d S=>some (.ret,d,S)⟩|_=>⟨fun _ _ _=>none⟩
def exec(n:Nat)(c:Code):fR:=fun a b S=>
 match jv C n c with
 |⟨f⟩=>f a b S
def xk(an:Nat)(b:aJ)(S:ai):List ResultVar→Option (List af×ai)
 |[]=>some ([],S)|r::c=>
  match(match r with
   |.tmp t=>some (b.get an t,S)|.cell a t=>oH C.P C.dA t (b.get an a) S)with
  |none=>none|some (v,S)=>
   match xk an b S c with
   |none=>none|some (vs,S)=>some (v::vs,S)
def zA:List af→af|[v]=>v|vs=>.bA vs
def B1(b:Nat)(call:gd)(f:FuncId)(args:List af)(S:ai):Option (af×ai):=
 match C.P.funcs[f]? with
 |none=>none|some fn=>
  match fn.body with
  |none=>none|some c=>
   match C.scope f&&Nat.ble args.length fn.ntmps with
   |false=>none|true=>
   match exec C b c ⟨call,C.an f,C.eD f,C.dyn f,C.loop f⟩ ⟨args++List.replicate (C.an f-args.length) .aa,[]⟩ S with
   |some (.normal,a,S)|some (.ret,a,S)=>
    match xk C (C.an f) a S fn.results.toList with
    |some (vs,S)=>some (zA vs,S)|none=>none
   |_=>none
def uV:Nat→Nat→gd
 |0,_=>fun _ _ _=>none|d+1,a=>fun f args S=>
  match C.spec f with
  |some b=>BM b args S|none=>B1 C a (uV d a) f args S
end
end
section
variable{a:Addr}{c:Nat}{b:World}
class aG where
 main:Bool
 plain:FuncId→Prop
 mine:Nat→Prop
 rd:Nat→Nat→Prop
 jump:Program→Goroutine→World→(Goroutine→World→Prop)→Prop
 shr:Nat→Prop:=fun _=>False
 lim:Nat→Bool→Bool:=fun _ _=>false
def Ez(m:Mark):Prop:=Conc.Neutral m∨∃f,m=.extern f
def gh [aG](a:Addr)(wr:Bool):Prop:=a.spot=none∧((aG.mine a.block∧(aG.shr a.block→aG.lim a.off wr=true))∨(wr=false∧aG.rd a.block a.off∧¬aG.shr a.block))
def oM [aG](c:Nat):Prop:=aG.mine c∧¬aG.shr c
def oM.rT [aG](h:oM c)(d:Nat)(wr:Bool):gh ⟨c,d,none⟩ wr:=⟨rfl,.inl ⟨h.1,fun k=>absurd k h.2⟩⟩
section
variable [aG]
open Classical in
def _root_.Go.Sem.aI{Q:Type}(P:Program):Sem Q→World→Result Q
 |.pure a,w=>.ok a w
 |.load m a k,w=>match w.cell? a with
  |some v=>if m=.plain∧gh a false then(k v).aI P w else .halt (.stuck "") w
  |none=>.halt (.stuck "") w
 |.store _ _ (.agg _) _,w|.store _ _ (.tuple _) _,w=>.halt (.stuck "") w
 |.store m a v k,w=>match w.cell? a with
  |some _=>if w.frozen? a then .halt (.stuck "") w else if m=.plain∧gh a true then k.aI P (w.setCell a v)else .halt (.stuck "") w
  |none=>.halt (.stuck "") w
 |.new d k,w=>(k w.heap.size).aI P {w with heap:=w.heap.push d}
 |.shape r k,w=>(k (w.shape? r)).aI P w|.freeze a n k,w=>if aG.shr a.block then .halt (.stuck "") w else k.aI P (w.freeze a n)
 |.frozen a k,w=>(k (w.frozen? a)).aI P w|.getObj _ _,w=>.halt (.stuck "") w|.setObj _ _ _,w=>.halt (.stuck "") w|.choose q k,w=>
  if q.forced then(k 0).aI P w
  else(k (q.cut (w.tape w.drawn q))).aI P {w with drawn:=w.drawn+1}
 |.sys _ _,w=>.halt (.stuck "") w|.program k,w=>(k P).aI P w|.mark m k,w=>if Ez m then k.aI P w else .halt (.stuck "") w
 |.halt h,w=>.halt h w
def EA(B:Nat)(d:Event):Prop:=(∃a wr,d=⟨.cell a,wr,false⟩∧gh a wr∧a.block<B)∨∃m,d=⟨.mark m,false,true⟩∧Ez m
def EB(B:Nat)(d:Event):Prop:=(∃a wr,d=⟨.cell a,wr,false⟩∧gh a wr∧a.block<B)∨∃m,d=⟨.mark m,false,true⟩∧Conc.Neutral m
def zB{w:World}{v:Value}(h:w.cell? a=some v):a.block<w.heap.size:=by
 unfold World.cell? at h;split at h
 ·rename_i d;exact(dX.1 d).1
 ·cases h
def Iw(w:World)(a:Addr)(v:Value):(w.setCell a v).heap.size=w.heap.size:=by simp[World.setCell]
def Ix(w:World)(a:Addr)(n:Nat):(w.freeze a n).heap.size=w.heap.size:=by
 unfold World.freeze;split<;>simp
def WA(P:Program)(fn:FuncId)(i:Array Event):∀d∈seen P fn i,∀f,d.loc≠.mark (.extern f):=by
 rw[Conc.seen_def];have j:∀(q:FuncId→Bool) (l:List Event) (e:Bool×Array Event),(∀d∈e.2,∀f,d.loc≠.mark (.extern f))→∀d∈(l.foldl (Conc.seenStep q) e).2,∀f,d.loc≠.mark (.extern f):=by
  intro q l
  induction l with
  |nil=>intro e h;exact h|cons n l k=>
   intro e h;obtain⟨o,kept⟩:=e;simp only[NT];refine k _ ?_;simp only[Conc.seenStep];split
   ·exact h
   ·rename_i m;split
    ·exact h
    ·intro d g f;rcases Array.mem_push.1 g with g|rfl
     ·exact h d g f
     ·exact m f
 exact j _ _ _ (by simp)
def EA.seen [aG]{P:Program}{fn:FuncId}{e:Array Event}{B:Nat}(h:∀d∈e,EA B d):∀d∈Go.seen P fn e,EB B d:=by
 intro d g;rcases h d (Conc.mem_seen g)with h|⟨m,rfl,i|⟨f,rfl⟩⟩
 ·exact .inl h
 ·exact .inr ⟨m,rfl,i⟩
 ·exact absurd rfl (WA P fn e _ g f)
def EC{Q:Type}{P:Program}:∀(i:Sem Q) {w w':World} {v:Q},i.aI P w=.ok v w'→
 i.run P w=.ok v w'∧w.heap.size≤w'.heap.size∧∀j∈i.events P w #[],EA w'.heap.size j:=by
 intro i
 induction i with
 |pure a=>intro w w' v h;simp only[Sem.aI]at h;cases h;exact⟨rfl,aV _,by simp[Sem.events,Sem.runT, -Sem.runT_eq]⟩
 |load m a k f=>
  intro w w' v h;simp only[Sem.aI]at h;split at h
  case h_2=>cases h
  rename_i u o;split at h
  case isFalse=>cases h
  rename_i g;obtain⟨rfl,g⟩:=g;obtain⟨h1,h2,h3⟩:=f u h;refine⟨by simp only[Sem.run,o];exact h1,h2,?_⟩;have j:(Sem.load .plain a k).events P w #[]=(k u).events P w (#[].push ⟨.cell a,false,false⟩):=by
   simp only[Sem.events,Sem.runT,o];rfl
  rw[j,Sem.events_acc];intro e d;rcases yX.1 d with d|d
  ·simp at d;subst d;exact .inl ⟨a,false,rfl,g,dN (zB o) h2⟩
  ·exact h3 e d
 |store m a v k f=>
  intro w w' u h;cases v with
  |agg e=>simp only[Sem.aI]at h;cases h
  |tuple e=>simp only[Sem.aI]at h;cases h
  |_=>
   simp only[Sem.aI]at h;split at h
   case h_2=>cases h
   rename_i c p;split at h
   ·cases h
   rename_i s;split at h
   case isFalse=>cases h
   rename_i g;obtain⟨rfl,g⟩:=g;obtain⟨h1,h2,h3⟩:=f h;rw[Iw]at h2;refine⟨by simp only[Sem.run,p,s];exact h1,h2,?_⟩;intro e d;simp only[Sem.events,Sem.runT,p,s]at d;change e∈Sem.events P k _ _ at d;rw[Sem.events_acc]at d;rcases yX.1 d with d|d
   ·simp at d;subst d;exact .inl ⟨a,true,rfl,g,dN (zB p) h2⟩
   ·exact h3 e d
 |new x k f=>
  intro w w' v h;simp only[Sem.aI]at h;obtain⟨h1,h2,h3⟩:=f _ h;exact⟨by simp only[Sem.run];exact h1,by simp at h2;omega,fun e d=>h3 e (by simpa only[Sem.events,Sem.runT]using d)⟩
 |shape r k f=>intro w w' v h;simp only[Sem.aI]at h;obtain⟨h1,h2,h3⟩:=f _ h;exact⟨by simp only[Sem.run];exact h1,h2,fun e d=>h3 e (by simpa only[Sem.events,Sem.runT]using d)⟩
 |freeze a n k f=>
  intro w w' v h;simp only[Sem.aI]at h;split at h
  ·cases h
  obtain⟨h1,h2,h3⟩:=f h;rw[Ix]at h2;exact⟨by simp only[Sem.run];exact h1,h2,fun e d=>h3 e (by simpa only[Sem.events,Sem.runT]using d)⟩
 |frozen a k f=>intro w w' v h;simp only[Sem.aI]at h;obtain⟨h1,h2,h3⟩:=f _ h;exact⟨by simp only[Sem.run];exact h1,h2,fun e d=>h3 e (by simpa only[Sem.events,Sem.runT]using d)⟩
 |getObj r k f=>intro w w' v h;simp only[Sem.aI]at h;cases h
 |setObj r x k f=>intro w w' v h;simp only[Sem.aI]at h;cases h
 |choose q k f=>
  intro w w' v h;simp only[Sem.aI]at h;split at h
  ·rename_i l;obtain⟨h1,h2,h3⟩:=f _ h;exact⟨by simp only[Sem.run,l,g6];exact h1,h2,fun e d=>h3 e (by simpa only[Sem.events,Sem.runT,l,g6]using d)⟩
  ·rename_i l;obtain⟨h1,h2,h3⟩:=f _ h;exact⟨by simp only[Sem.run,l];exact h1,h2,fun e d=>h3 e (by simpa only[Sem.events,Sem.runT,l,nc,ee]using d)⟩
 |sys c k f=>intro w w' v h;simp only[Sem.aI]at h;cases h
 |program k f=>intro w w' v h;simp only[Sem.aI]at h;obtain⟨h1,h2,h3⟩:=f _ h;exact⟨by simp only[Sem.run];exact h1,h2,fun e d=>h3 e (by simpa only[Sem.events,Sem.runT]using d)⟩
 |mark m k f=>
  intro w w' v h;simp only[Sem.aI]at h;split at h
  case isFalse=>cases h
  rename_i g;obtain⟨h1,h2,h3⟩:=f h;refine⟨by simp only[Sem.run];exact h1,h2,fun e d=>?_⟩;have j:(Sem.mark m k).events P w #[]=k.events P w (#[].push ⟨.mark m,false,true⟩):=by simp only[Sem.events,Sem.runT]
  rw[j,Sem.events_acc]at d;rcases yX.1 d with d|d
  ·simp at d;subst d;exact .inr ⟨m,rfl,g⟩
  ·exact h3 e d
 |halt h=>intro w w' v t;simp only[Sem.aI]at t;cases t
def Sem.Ol{Q β:Type}(P:Program)(e:Sem Q)(f:Q→Sem β)(w:World):
 (e.bind f).aI P w=(e.aI P w).andThen fun a w'=>(f a).aI P w':=by
 induction e generalizing w with
 |pure a=>simp[Sem.bind,Sem.aI]|load m a k d=>simp only[Sem.bind,Sem.aI];(repeat' split)<;>simp[d]
 |store m a v k d=>
  cases v<;>simp only[Sem.bind,Sem.aI,Result.andThen_halt]<;>(try((repeat' split)<;>simp[d]))
 |new g k d=>simp[Sem.bind,Sem.aI,d]|shape r k d=>simp[Sem.bind,Sem.aI,d]|freeze a n k d=>simp only[Sem.bind,Sem.aI];split<;>simp[d]
 |frozen a k d=>simp[Sem.bind,Sem.aI,d]|getObj r k d=>simp[Sem.bind,Sem.aI]|setObj r g k d=>simp[Sem.bind,Sem.aI]|choose q k d=>simp only[Sem.bind,Sem.aI];split<;>simp[d]
 |sys c k d=>simp[Sem.bind,Sem.aI]|program k d=>simp[Sem.bind,Sem.aI,d]|mark m k d=>simp only[Sem.bind,Sem.aI];split<;>simp[d]
 |halt h=>simp[Sem.bind,Sem.aI]
section
variable{Q β:Type}(P:Program)(w:World)
@[simp] theorem Sem.tr(d:Sem Q) (f:Q→Sem β):(d >>= f).aI P w=(d.aI P w).andThen fun a w'=>(f a).aI P w':=Sem.Ol P d f w
@[simp] theorem Sem.aoa(d:Sem Q) (f:Q→β):(Functor.map f d).aI P w=(d.aI P w).andThen fun a w'=>.ok (f a) w':=Sem.Ol P d _ w
@[simp] theorem Sem.fS(a:Q):(Pure.pure a:Sem Q).aI P w=.ok a w:=rfl
@[simp] theorem Sem.aob(a:Q):(Sem.pure a).aI P w=.ok a w:=rfl
@[simp] theorem Sem.aoc(h:Halt):(Sem.halt h:Sem Q).aI P w=.halt h w:=rfl
@[simp] theorem Sem.aod(c:Prop) [Decidable c] (d e:Sem Q):(if c then d else e).aI P w=if c then d.aI P w else e.aI P w:=by split<;>rfl
def B2{a:Addr}{v:Value}(h:w.cell? a=some v)(g:gh a false):(load a).aI P w=.ok v w:=by
 simp only[load,Sem.aI,h,g,NU,g6]
@[simp] theorem aoe(d:Obj):(newObj d).aI P w=.ok w.heap.size {w with heap:=w.heap.push d}:=rfl
@[simp] theorem aof(r:Nat):(shape r).aI P w=.ok (w.shape? r) w:=rfl
def WB{a:Addr}(h:¬aG.shr a.block)(n:Nat):(freeze a n).aI P w=.ok () (w.freeze a n):=by simp only[freeze,Sem.aI,h,ee]
@[simp] theorem aog(a:Addr):(frozen a).aI P w=.ok (w.frozen? a) w:=rfl
@[simp] theorem WC:program.aI P w=.ok P w:=rfl
@[simp] theorem aoh(n:Nat):(askRoom n).aI P w=.ok () w:=by
 unfold askRoom;split
 ·simp only[mark,Sem.aI,Ez,Conc.Neutral,true_or,g6]
 ·rfl
@[simp] theorem aoi(d:String):(stuck d:Sem Q).aI P w=.halt (.stuck d) w:=rfl
@[simp] theorem aoj(u:Unsupported):(unsupported u:Sem Q).aI P w=.halt (.unsupported u) w:=rfl
@[simp] theorem aok(v:Value):(goPanic v:Sem Q).aI P w=.halt (.panic v) w:=rfl
@[simp] theorem aol(q:Question):
 (choose q).aI P w=if q.forced then .ok 0 w else .ok (q.cut (w.tape w.drawn q)) {w with drawn:=w.drawn+1}:=by
 simp only[choose,Sem.aI]
end
def zC{P:Program}{t:TypeId}{d:TypeDesc}(h:P.underlying t=some d)(w:World):(underlying t).aI P w=.ok d w:=by simp[underlying,h]
def WE(P:Program)(w:World)(a:Addr)(v:Value){u:Value}(d:v.oneCell'=true)(h:w.cell? a=some u)(e:w.frozen? a=false)(f:gh a true):
 (store a v).aI P w=.ok () (w.setCell a v):=by
 cases v<;>first
  |(simp[Value.oneCell']at d;done)|(simp only[store,Sem.aI,h,e,f,NU,g6];rfl)
structure eK(w cm:World):Prop where
 os:cm.os=w.os
 tape:cm.tape=w.tape
 output:cm.output=w.output
 size:w.heap.size≤cm.heap.size
 mine:∀c,c<w.heap.size→aG.mine c→cm.heap[c]? =w.heap[c]?
 rd:∀c o,c<w.heap.size→aG.rd c o→cm.cell? ⟨c,o,none⟩=w.cell? ⟨c,o,none⟩
structure rU(w w':World)(es:Array Event):Prop where
 os:w'.os=w.os
 tape:w'.tape=w.tape
 output:w'.output=w.output
 size:w.heap.size≤w'.heap.size
 jN:∀c,c<w.heap.size→¬aG.mine c→w'.heap[c]? =w.heap[c]?
 evs:∀e∈es,EB w'.heap.size e
def lm(w w':World):Prop:=∀c,w.heap.size≤c→c<w'.heap.size→oM c
def eK.refl(w:World):eK w w:=⟨rfl,rfl,rfl,aV _,fun _ _ _=>rfl,fun _ _ _ _=>rfl⟩
def eK.trans{a c:World}(h:eK a b)(k:eK b c):eK a c:=
 ⟨k.os.trans h.os,k.tape.trans h.tape,k.output.trans h.output,ga h.size k.size,fun d e f=>(k.mine d (dN e h.size) f).trans (h.mine d e f),
  fun d g e f=>(k.rd d g (dN e h.size) f).trans (h.rd d g e f)⟩
def rU.idle(w:World):rU w w #[]:=⟨rfl,rfl,rfl,aV _,fun _ _ _=>rfl,by simp⟩
def rU.drew(w:World):rU w {w with drawn:=w.drawn+1} #[]:=⟨rfl,rfl,rfl,aV _,fun _ _ _=>rfl,by simp⟩
def eK.cell{w g:World}(h:eK w g){f:Nat}{v:Value}(d:gh ⟨c,f,none⟩ false)(e:w.cell? ⟨c,f,none⟩=some v):g.cell? ⟨c,f,none⟩=some v:=by
 have i:=zB e;rcases d.2 with d|⟨_,d,_⟩
 ·have:=h.mine c i d.1;unfold World.cell? at e⊢;simp only at e⊢;rw[this];exact e
 ·rw[h.rd c f i d];exact e
def oN(q:Nat→Prop)(e f:Option Obj):Prop:=f=e∨∃vs us t bx,e=some (.cells vs t bx)∧f=some (.cells us t bx)∧us.size=vs.size∧∀d,q d→us[d]? =vs[d]?
structure fe(w v:World):Prop where
 os:v.os=w.os
 tape:v.tape=w.tape
 output:v.output=w.output
 drawn:v.drawn=w.drawn
 size:v.heap.size=w.heap.size
 same:∀c,¬aG.shr c→v.heap[c]? =w.heap[c]?
 shr:∀c,aG.shr c→oN (fun o=>aG.lim o false=true∨aG.lim o true=true) w.heap[c]? v.heap[c]?
def nu(v v':World):Prop:=∀c,c<v.heap.size→aG.shr c→oN (fun d=>¬aG.lim d true=true) v.heap[c]? v'.heap[c]?
def oN.refl(q:Nat→Prop)(d:Option Obj):oN q d d:=.inl rfl
def oN.trans{q:Nat→Prop}{d e z:Option Obj}(h:oN q d e)(k:oN q e z):oN q d z:=by
 rcases h with rfl|⟨vs,us,t,bx,rfl,h2,h3,h4⟩
 ·exact k
 ·rcases k with rfl|⟨n,j,o,p,f,l,m,dr⟩
  ·exact .inr ⟨vs,us,t,bx,rfl,h2,h3,h4⟩
  ·rw[h2]at f;cases f;exact .inr ⟨vs,j,t,bx,rfl,l,m.trans h3,fun g i=>(dr g i).trans (h4 g i)⟩
def nu.refl(v:World):nu v v:=fun _ _ _=>.refl _ _
def nu.trans{a c:World}(h:nu a b)(k:nu b c)(g:a.heap.size≤b.heap.size):nu a c:=fun d e f=>(h d e f).trans (k d (dN e g) f)
section
variable{w v:World}
def fe.both(h:fe w v)(c:Nat):v.heap[c]? =w.heap[c]? ∨aG.shr c∧∃vs us t bx,w.heap[c]? =some (.cells vs t bx)∧v.heap[c]? =some (.cells us t bx)∧us.size=vs.size∧∀d,aG.lim d false=true∨aG.lim d true=true→us[d]? =vs[d]? :=by
 by_cases e:aG.shr c
 ·exact(h.shr c e).imp id fun f=>⟨e,f⟩
 ·exact .inl (h.same c e)
def fe.shape(h:fe w v)(r:Nat):v.shape? r=w.shape? r:=by
 unfold World.shape?;rcases h.both r with d|⟨_,vs,us,t,bx,e,f,g,_⟩
 ·rw[d]
 ·simp only[e,f,g]
def fe.frozen(h:fe w v)(a:Addr):v.frozen? a=w.frozen? a:=by
 unfold World.frozen?;rcases h.both a.block with d|⟨_,vs,us,t,bx,e,f,g,_⟩
 ·rw[d]
 ·simp only[e,f]
def fe.cell(h:fe w v){wr:Bool}(d:gh a wr):v.cell? a=w.cell? a:=by
 unfold World.cell?;rcases h.both a.block with e|⟨f,vs,us,t,bx,g,i,l,j⟩
 ·rw[e]
 ·simp only[g,i];have k:aG.lim a.off wr=true:=by
   rcases d.2 with d|⟨e,d⟩
   ·exact d.2 f
   ·exact absurd f d.2
  rw[j a.off (by cases wr<;>simp[k])]
def fe.modify(h:fe w v)(c:Nat){f g:Obj→Obj}(h1:∀d,¬aG.shr c→f d=g d)(h2:∀vs us t bx,aG.shr c→us.size=vs.size→(∀e,aG.lim e false=true∨aG.lim e true=true→us[e]? =vs[e]?)→∃j l n,f (.cells vs t bx)=.cells j t n∧g (.cells us t bx)=.cells l t n∧l.size=j.size∧∀e,aG.lim e false=true∨aG.lim e true=true→l[e]? =j[e]?)(h3:∀d,(∀vs t bx,d≠.cells vs t bx)→f d=g d):
 fe {w with heap:=w.heap.modify c f} {v with heap:=v.heap.modify c g}:=by
 have o:∀(p:Array Obj) (k:Obj→Obj) (i:Nat),(p.modify c k)[i]? =if c=i then(p[i]?).map k else p[i]? :=fun p k i=>by rw[HP]
 refine⟨h.os,h.tape,h.output,h.drawn,by simpa using h.size,fun i hi=>?_,fun i hi=>?_⟩
 ·show(v.heap.modify c g)[i]? =(w.heap.modify c f)[i]?;rw[o,o,h.same i hi];split
  ·rename_i m;subst m;cases w.heap[c]? with
   |none=>rfl|some d=>simp[h1 d hi]
  ·rfl
 ·show oN _ (w.heap.modify c f)[i]? (v.heap.modify c g)[i]?;rw[o,o];split
  ·rename_i m;subst m;rcases h.shr c hi with m|⟨vs,us,t,bx,x,y,z,A⟩
   ·rw[m];cases B:w.heap[c]? with
    |none=>exact .inl rfl|some d=>
     by_cases u:∃vs t bx,d=.cells vs t bx
     ·obtain⟨vs,t,bx,rfl⟩:=u;obtain⟨j,l,n,q,r,s,dr⟩:=h2 vs vs t bx hi rfl fun _ _=>rfl;exact .inr ⟨j,l,t,n,by simp[q],by simp[r],s,dr⟩
     ·exact .inl (by simp[h3 d fun vs t bx m=>u ⟨vs,t,bx,m⟩])
   ·obtain⟨j,l,n,q,r,s,dr⟩:=h2 vs us t bx hi z A;exact .inr ⟨j,l,t,n,by simp[x,q],by simp[y,r],s,dr⟩
  ·exact h.shr i hi
end
def fe.setCell{w v:World}(h:fe w v)(e:a.spot=none)(d:Value):fe (w.setCell a d) (v.setCell a d):=by
 refine h.modify a.block (fun _ _=>rfl) (fun vs us t bx _ f g=>⟨vs.setIfInBounds a.off d,us.setIfInBounds a.off d,bx,by simp[e],by simp[e],by simp[f],fun i j=>?_⟩) fun _ _=>rfl;rw[NV,NV,f,g i j]
def fe.freeze{w v:World}(h:fe w v)(a:Addr)(n:Nat):fe (w.freeze a n) (v.freeze a n):=by
 unfold World.freeze;split
 ·exact h
 ·exact h.modify a.block (fun _ _=>rfl) (fun vs us t bx _ d e=>⟨vs,us,_,rfl,rfl,d,e⟩) fun _ _=>rfl
def fe.push{w v:World}(h:fe w v)(d:Obj):fe {w with heap:=w.heap.push d} {v with heap:=v.heap.push d}:=by
 refine⟨h.os,h.tape,h.output,h.drawn,by simp[h.size],fun i hi=>?_,fun i hi=>?_⟩
 ·show(v.heap.push d)[i]? =(w.heap.push d)[i]?;rw[Bd,Bd,h.size,h.same i hi]
 ·show oN _ (w.heap.push d)[i]? (v.heap.push d)[i]?;rw[Bd,Bd,h.size];split
  ·exact .inl rfl
  ·exact h.shr i hi
def WG(v:World)(e:gh a true)(f:Value):nu v (v.setCell a f):=by
 intro c _ g
 show oN _ v.heap[c]? (v.heap.modify a.block _)[c]?;rw[HP];split
 ·rename_i d;subst d;have h:aG.lim a.off true=true:=by
   rcases e.2 with e|⟨d,_⟩
   ·exact e.2 g
   ·cases d
  cases k:v.heap[a.block]? with
  |none=>exact .inl rfl|some i=>
   cases i with
   |cells vs t bx=>
    refine .inr ⟨vs,vs.setIfInBounds a.off f,t,bx,rfl,by simp[e.1],by simp,fun l j=>?_⟩;rw[NV];split
    ·rename_i d;subst d;exact absurd h j
    ·rfl
   |_=>exact .inl rfl
 ·exact .inl rfl
def WH(v:World)(h:¬aG.shr a.block)(n:Nat):nu v (v.freeze a n):=by
 intro c _ d;unfold World.freeze;split
 ·exact .refl _ _
 ·show oN _ v.heap[c]? (v.heap.modify a.block _)[c]?;rw[HP,ak (fun e:a.block=c=>h (e.symm▸d))];exact .refl _ _
def WI(v:World)(d:Obj):nu v {v with heap:=v.heap.push d}:=fun c e _=>.inl (by show(v.heap.push d)[c]? =_;rw[Bd,ak (by omega)])
def WJ{Q:Type}{P:Program}:∀(p:Sem Q) {w w' v:World} {l:Q},p.aI P w=.ok l w'→fe w v→∃v',p.aI P v=.ok l v'∧fe w' v'∧nu v v'∧v.heap.size≤v'.heap.size∧p.events P v #[]=p.events P w #[]:=by
 intro p
 induction p with
 |pure a=>intro w w' v l h d;simp only[Sem.aI]at h;cases h;exact⟨v,rfl,d,nu.refl v,aV _,rfl⟩
 |load m a k e=>
  intro w w' v l h d;simp only[Sem.aI]at h;split at h
  case h_2=>cases h
  rename_i u A;split at h
  case isFalse=>cases h
  rename_i o;obtain⟨rfl,o⟩:=o;obtain⟨v',f,g,i,dr,j⟩:=e u h d;have s:v.cell? a=some u:=(d.cell o).trans A;refine⟨v',by simp only[Sem.aI,s,o,NU,g6];exact f,g,i,dr,?_⟩;have t:∀w:World,w.cell? a=some u→(Sem.load .plain a k).events P w #[]=(k u).events P w (#[].push ⟨.cell a,false,false⟩):=fun w I=>by simp only[Sem.events,Sem.runT,I];rfl
  rw[t _ s,t _ A,Sem.events_acc,j,←Sem.events_acc]
 |store m a y k e=>
  intro w w' v l h d;cases y with
  |agg y=>simp only[Sem.aI]at h;cases h
  |tuple y=>simp only[Sem.aI]at h;cases h
  |_=>
   simp only[Sem.aI]at h;split at h
   case h_2=>cases h
   rename_i c s;split at h
   ·cases h
   rename_i B;split at h
   case isFalse=>cases h
   rename_i o;obtain⟨rfl,o⟩:=o;obtain⟨v',f,g,i,dr,j⟩:=e h (d.setCell o.1 _);have C:=(d.cell o).trans s;have D:v.frozen? a=false:=by rw[d.frozen];simpa using B
   refine⟨v',by simp only[Sem.aI,C,D,o,NU,g6,nc,ee];exact f,g,(WG v o _).trans i (pI (Iw _ _ _).symm),by rw[Iw]at dr;exact dr,?_⟩;simp only[Sem.events,Sem.runT,C,D,s,B,nc,ee];change Sem.events P k _ _=Sem.events P k _ _;rw[Sem.events_acc,j,←Sem.events_acc]
 |new z k e=>
  intro w w' v l h d;simp only[Sem.aI]at h;obtain⟨v',f,g,i,dr,j⟩:=e _ h (d.push z);exact⟨v',by simp only[Sem.aI,d.size];exact f,g,(WI v z).trans i (by simp),by simp at dr;omega,by simpa only[Sem.events,Sem.runT,d.size]using j⟩
 |shape r k e=>
  intro w w' v l h d;simp only[Sem.aI]at h;obtain⟨v',f,g,i,dr,j⟩:=e _ h d;exact⟨v',by simp only[Sem.aI,d.shape];exact f,g,i,dr,by simpa only[Sem.events,Sem.runT,d.shape]using j⟩
 |freeze a n k e=>
  intro w w' v l h d;simp only[Sem.aI]at h;split at h
  ·cases h
  rename_i E;obtain⟨v',f,g,i,dr,j⟩:=e h (d.freeze a n);exact⟨v',by simp only[Sem.aI,E,ee];exact f,g,(WH v E n).trans i (pI (Ix _ _ _).symm),by rw[Ix]at dr;exact dr,by simpa only[Sem.events,Sem.runT]using j⟩
 |frozen a k e=>
  intro w w' v l h d;simp only[Sem.aI]at h;obtain⟨v',f,g,i,dr,j⟩:=e _ h d;exact⟨v',by simp only[Sem.aI,d.frozen];exact f,g,i,dr,by simpa only[Sem.events,Sem.runT,d.frozen]using j⟩
 |getObj r k e=>intro w w' v l h;simp only[Sem.aI]at h;cases h
 |setObj r z k e=>intro w w' v l h;simp only[Sem.aI]at h;cases h
 |choose q k e=>
  intro w w' v l h d;simp only[Sem.aI]at h;split at h
  ·rename_i x;obtain⟨v',f,g,i,dr,j⟩:=e _ h d;exact⟨v',by simp only[Sem.aI,x,g6];exact f,g,i,dr,by simpa only[Sem.events,Sem.runT,x,g6]using j⟩
  ·rename_i x;have J:fe {w with drawn:=w.drawn+1} {v with drawn:=v.drawn+1}:=⟨d.os,d.tape,d.output,by show v.drawn+1=w.drawn+1;rw[d.drawn],d.size,d.same,d.shr⟩;obtain⟨v',f,g,i,dr,j⟩:=e _ h J;have F:v.tape v.drawn q=w.tape w.drawn q:=by rw[d.tape,d.drawn]
   refine⟨v',?_,g,i,dr,?_⟩
   ·simp only[Sem.aI,x,F];exact f
   ·simp only[Sem.events,Sem.runT,x,nc,ee,F];exact j
 |sys c k e=>intro w w' v l h;simp only[Sem.aI]at h;cases h
 |program k e=>
  intro w w' v l h d;simp only[Sem.aI]at h;obtain⟨v',f,g,i,dr,j⟩:=e _ h d;exact⟨v',by simp only[Sem.aI];exact f,g,i,dr,by simpa only[Sem.events,Sem.runT]using j⟩
 |mark m k e=>
  intro w w' v l h d;simp only[Sem.aI]at h;split at h
  case isFalse=>cases h
  rename_i o;obtain⟨v',f,g,i,dr,j⟩:=e h d;refine⟨v',by simp only[Sem.aI,o,g6];exact f,g,i,dr,?_⟩;have t:∀w,(Sem.mark m k).events P w #[]=k.events P w (#[].push ⟨.mark m,false,true⟩):=fun w=>by simp only[Sem.events,Sem.runT]
  rw[t,t,Sem.events_acc,j,←Sem.events_acc]
 |halt h=>intro w w' v l H;simp only[Sem.aI]at H;cases H
end
end
section
open Conc
variable{id:Nat}{g:Goroutine}{cs:List Frame}{f:FuncId}{w':World}{i:Nat}{g':Goroutine}{b:Frame}{k:List Item}{S:Array Value}{T:Ending→World→Prop}{ek V:Act→World→Prop}{W:Type}{U:Sem W}{v:Value}{fn:Func}{main:Bool}{fr:Frame}{rest:List Nat}
section
variable [aG]
def StepA(P:Program)(g:Goroutine)(w:World)(g':Goroutine)(w':World)(c:Array Event):Prop:=
 stepG P aG.main g w=.go g' w' c∧∀v,fe w v→∃v',stepG P aG.main g v=.go g' v' c∧fe w' v'∧nu v v'∧v.heap.size≤v'.heap.size
inductive de(P:Program)(Stop:Goroutine→World→Prop):Goroutine→World→Prop
 |stop {g:Goroutine} {w:World}:(∀cm,eK w cm→Stop g cm)→de P Stop g w
 |step {g:Goroutine} {w:World}:g.status=.running→aG.plain g.frame.fn→
  (∀cm,eK w cm→∃g' w' es,StepA P g cm g' w' es∧(lm cm w'→rU cm w' es))→
  (∀cm g' w' es,eK w cm→stepG P aG.main g cm=.go g' w' es→lm cm w'→de P Stop g' w')→de P Stop g w
 |jump {g:Goroutine} {w:World} (ek:World→Goroutine→World→Prop):(∀cm,eK w cm→aG.jump P g cm (ek cm))→
  (∀cm g' w',eK w cm→ek cm g' w'→de P Stop g' w')→de P Stop g w
variable{P:Program}{Stop:Goroutine→World→Prop}
def de.rely{w j:World}(h:de P Stop g w)(e:eK w j):de P Stop g j:=by
 cases h with
 |stop h=>exact .stop fun c d=>h c (e.trans d)|step l m h k=>exact .step l m (fun c d=>h c (e.trans d)) fun c g' w' n d=>k c g' w' n (e.trans d)|jump ek h k=>exact .jump ek (fun c d=>h c (e.trans d)) fun c g' w' d=>k c g' w' (e.trans d)
def de.ctl{w:World}(e:g.status=.running)(j:aG.plain g.frame.fn)(h:∀c,stepG P aG.main g c=.go g' c)(l:de P Stop g' w):de P Stop g w:=
 .step e j (fun c _=>⟨g',c,#[],⟨h c,fun v m=>⟨v,h v,m,nu.refl v,aV _⟩⟩,fun _=>rU.idle _⟩) fun c q w' r n d _=>by
  rw[h c]at d;injection d with o p;subst o p;exact l.rely n
def de.one{w:World}(m:g.status=.running)(o:aG.plain g.frame.fn)(h:∀c,eK w c→∃g' w' d,StepA P g c g' w' d∧(lm c w'→rU c w' d∧de P Stop g' w')):de P Stop g w:=
 .step m o (fun c e=>let⟨g',w',d,j,k⟩:=h c e;⟨g',w',d,j,fun n=>(k n).1⟩) fun c s t u e j n=>by
  obtain⟨g',w',d,⟨l,_⟩,k⟩:=h c e;rw[j]at l;injection l with p q r;subst p q r;exact(k n).2
def B3(b:Frame):Prop:=b.kind≠.early∧aG.plain b.fn
def zD(P:Program)(Stop:Goroutine→World→Prop)(b:Frame)(k:List Item)(cs:List Frame):Exit→Act→World→Prop
 |.normal,a,w=>de P Stop (G (b.at a k) cs) w|.exit id,a,w=>∃c,exitTo id k=some c∧de P Stop (G (b.at a c) cs) w|.ret,a,w=>∀d,de P Stop (G {b.at a d with mode:=.returning} cs) w
 |_,_,_=>False
def zD.push{x:Item}{c:Exit}{a:Act}{w:World}(m:x.plain=true)(d:c≠.normal)(h:zD P Stop b k cs c a w):zD P Stop b (x::k) cs c a w:=by
 cases c with
 |normal=>exact absurd rfl d|exit id=>obtain⟨e,n,j⟩:=h;exact⟨e,by cases x<;>simp_all[exitTo,Item.plain],j⟩
 |ret=>exact h|goto l=>exact h|panic ch=>exact h|outgrown=>exact h
def _root_.Go.Code.en(P:Program)(c:Code)(Q:Exit→Act→World→Prop)(a:Act)(w:World):Prop:=
 ∀(b:Frame) (k:List Item) (cs:List Frame) (Stop:Goroutine→World→Prop),B3 b→
  (∀d e w',Q d e w'→zD P Stop b k cs d e w')→de P Stop (G (b.at a (.code c::k)) cs) w
def zE(P:Program)(R:Array Oper)(e:List Nat)(Q:Exit→Act→World→Prop)(a:Act)(w:World):Prop:=
 ∀(b:Frame) (k:List Item) (cs:List Frame) (Stop:Goroutine→World→Prop),B3 b→
  (∀c d w',Q c d w'→zD P Stop b k cs c d w')→de P Stop (G (b.at a (.inRegion R e::k)) cs) w
structure ED(P:Program)(f:FuncId)(v:Value)(w:World)(fr:Frame):Prop where
 fn:fr.fn=f
 mode:fr.mode=.returning
 defers:fr.defers=[]
 kind:fr.kind=.normal
 reads:∃fn,P.funcs[f]? =some fn∧∀cm,eK w cm→(results fn fr.tmps).aI P cm=.ok v cm
def Iy(P:Program)(Stop:Goroutine→World→Prop)(f:FuncId)(v:Value)(w:World):List Frame→Prop|c::cs=>de P Stop (G (c.finish v) cs) w|[]=>∀fr,ED P f v w fr→de P Stop (G fr []) w
def j6(P:Program)(f:FuncId)(S:Array Value)(w:World)(T:Ending→World→Prop):Prop:=
 ∀(cs:List Frame) (Stop:Goroutine→World→Prop),(∀v w',T (.returned v) w'→Iy P Stop f v w' cs)→de P Stop (G (Frame.enter P f S .normal) cs) w
def j6.mono{w:World}{c:Ending→World→Prop}(h:j6 P f S w T)(e:∀d w',T d w'→c d w'):j6 P f S w c:=
 fun cs Stop j=>h cs Stop fun v w' l=>j v w' (e _ _ l)
section WK
variable{Q:Exit→Act→World→Prop}{a:Act}{w:World}
def B4{c:Code}{e:Exit→Act→World→Prop}(h:c.en P Q a w)(l:∀d a w,Q d a w→e d a w):c.en P e a w:=
 fun b k cs Stop m n=>h b k cs Stop m fun d j w' q=>n d j w' (l d j w' q)
def WL(h:Q .normal a w):Code.skip.en P Q a w:=fun b k cs Stop c d=>.ctl rfl c.2 (fun e=>stepG_skip) (d _ _ _ h)
def WM(h:Q .ret a w):Code.ret.en P Q a w:=fun b k cs Stop c d=>.ctl rfl c.2 (fun e=>stepG_ret') (d _ _ _ h _)
def WN(h:Q (.exit id) a w):(Code.exit id).en P Q a w:=fun b k cs Stop c d=>by
 obtain⟨l,e,j⟩:=d _ _ _ h;exact .ctl rfl c.2 (fun m=>stepG_exit e) j
def EE{x d:Code}(h:x.en P (Exit.then (fun j w'=>d.en P Q j w') Q) a w):(Code.seq x d).en P Q a w:=by
 intro b k cs Stop e c;refine .ctl rfl e.2 (fun n=>stepG_seq) (h b (.code d::k) cs Stop e fun m j w' q=>?_);cases m with
 |normal=>exact q b k cs Stop e c|exit id=>exact(c _ _ _ q).push rfl (by simp)|ret=>exact(c _ _ _ q).push (x:=.code d) rfl (by simp)|goto l=>exact c _ _ _ q|panic ch=>exact c _ _ _ q|outgrown=>exact c _ _ _ q
def WO{c:Operand}{d j:Code}(l:a.eval c=.bool true)(h:d.en P Q a w):(Code.cond c d j).en P Q a w:=
 fun b k cs Stop e m=>.ctl rfl e.2 (fun n=>stepG_cond l) (h b k cs Stop e m)
def WP{c:Operand}{j d:Code}(l:a.eval c=.bool false)(h:d.en P Q a w):(Code.cond c j d).en P Q a w:=
 fun b k cs Stop e m=>.ctl rfl e.2 (fun n=>stepG_cond l) (h b k cs Stop e m)
def EF{c:Code}(h:c.en P (Exit.inBlock id Q) a w):(Code.block id c).en P Q a w:=by
 intro b k cs Stop j d;refine .ctl rfl j.2 (fun n=>stepG_block) (h b (.inBlock id::k) cs Stop j fun o u w' q=>?_);cases o with
 |normal=>exact .ctl rfl j.2 (fun n=>stepG_inBlock) (d _ _ _ q)|exit m=>
  by_cases e:m=id
  ·simp only[Exit.inBlock,e,g6]at q;exact⟨k,by simp[exitTo,e],d _ _ _ q⟩
  ·simp only[Exit.inBlock,e,ee]at q;obtain⟨p,r,s⟩:=d _ _ _ q;have:(id==m)=false:=by simp;exact fun h=>e h.symm
   exact⟨p,by simp[exitTo,this,r],s⟩
 |ret=>exact fun t=>d _ _ _ q t|goto l=>exact d _ _ _ q|panic ch=>exact d _ _ _ q|outgrown=>exact d _ _ _ q
def zF(P:Program)(c:Code)(Q:Exit→Act→World→Prop)(a:Act)(w:World):Prop:=
 ∀(b:Frame) (k:List Item) (cs:List Frame) (Stop:Goroutine→World→Prop),B3 b→
  (∀d e w',Q d e w'→zD P Stop b k cs d e w')→de P Stop (G (b.at a (.code c::.inLoop c::k)) cs) w
def On{c:Code}(h:zF P c Q a w):(Code.loop c).en P Q a w:=fun b k cs Stop d e=>.ctl rfl d.2 (fun j=>stepG_loop) (h b k cs Stop d e)
def xm{c:Code}(h:c.en P (Exit.then (zF P c Q) Q) a w):zF P c Q a w:=by
 intro b k cs Stop e d;refine h b (.inLoop c::k) cs Stop e fun j m w' q=>?_;cases j with
 |normal=>exact .ctl rfl e.2 (fun n=>stepG_inLoop) (q b k cs Stop e d)|exit id=>exact(d _ _ _ q).push rfl (by simp)|ret=>exact(d _ _ _ q).push (x:=.inLoop c) rfl (by simp)|goto l=>exact d _ _ _ q|panic ch=>exact d _ _ _ q|outgrown=>exact d _ _ _ q
end WK
structure ff(w w':World):Prop where
 os:w'.os=w.os
 tape:w'.tape=w.tape
 output:w'.output=w.output
 jN:∀c,c<w.heap.size→¬aG.mine c→w'.heap[c]? =w.heap[c]?
def ff.refl(w:World):ff w w:=⟨rfl,rfl,rfl,fun _ _ _=>rfl⟩
def _root_.Go.Oper.en(P:Program)(d:Oper)(a:Act)(w:World)(next:Act→World→Prop):Prop:=
 ∀c,eK w c→∃r w',(execOp a.eval d).aI P c=.ok r w'∧
  match r with
  |.value v=>lm c w'→ff c w'∧next (a.put d.dst v) w'|.skip=>lm c w'→ff c w'∧next (a.put d.dst undef) w'
  |.enter f S=>w'=c∧j6 P f S c fun
   |.returned v,e=>next (a.put d.dst v) e|_,_=>False
  |_=>False
def Oper.B4{e:Oper}{a:Act}{w:World}(h:∀a w,ek a w→V a w)(l:e.en P a w ek):e.en P a w V:=by
 intro m o;obtain⟨r,w',d,c⟩:=l m o;refine⟨r,w',d,?_⟩;cases r<;>first|exact fun n=>⟨(c n).1,h _ _ (c n).2⟩|exact⟨c.1,c.2.mono fun d p j=>by cases d<;>first|exact h _ _ j|exact j⟩|exact c
def EG{w:World}{v:W}(h:U.aI P w=.ok v w')(c:ff w w')(fn:FuncId):rU w w' (seen P fn (U.events P w #[])):=by
 obtain⟨_,h2,h3⟩:=EC U h;exact⟨c.os,c.tape,c.output,h2,c.jN,EA.seen h3⟩
def EH{w:World}{fn:FuncId}{c:W}(d:U.aI P w=.ok c w')(h:∀{v v'},U.run P v=.ok c v'→stepG P aG.main g v=.go g' v' (seen P fn (U.events P v #[]))):StepA P g w g' w' (seen P fn (U.events P w #[])):=
 ⟨h (EC _ d).1,fun v e=>let⟨v',j,l,m,dr,n⟩:=WJ U d e;⟨v',by rw[←n];exact h (EC _ j).1,l,m,dr⟩⟩
def Oo{c:Frame}{w:World}(d:fr.mode=.returning)(e:fr.defers=[])(h:fr.kind=.normal)(j:P.funcs[fr.fn]? =some fn)
 (l:(results fn fr.tmps).run P w=.ok v w'):stepG P main (G fr (c::cs)) w=.go (G (c.finish v) cs) w' (seen P fr.fn ((results fn fr.tmps).events P w #[])):=by
  simp[G,stepG,unwind,doReturn,d,e,h,j,l,GStep.after]
def de.Oq{c:Frame}{w:World}(l:aG.plain f)(h:ED P f v w fr)(m:de P Stop (G (c.finish v) cs) w):de P Stop (G fr (c::cs)) w:=by
 obtain⟨h1,h2,h3,h4,fn,n,e⟩:=h;refine .one rfl (by show aG.plain fr.fn;rw[h1];exact l) fun j d=>?_;refine⟨_,_,_,EH (e j d) (Oo h2 h3 h4 (by rw[h1];exact n)),fun _=>⟨EG (e j d) (ff.refl _) _,m.rely d⟩⟩
def WR{R:Array Oper}{Q:Exit→Act→World→Prop}{a:Act}{w:World}(h:Q .normal a w):zE P R [] Q a w:=fun b k cs Stop c d=>.ctl rfl c.2 (fun e=>stepG_region_end) (d _ _ _ h)
def WS{R:Array Oper}{c:Oper}{Q:Exit→Act→World→Prop}{a:Act}{w:World}(e:R[i]? =some c)(j:Region.wanted c (yielded R a.tmps)=false)
 (h:zE P R rest Q (a.put c.dst undef) w):zE P R (i::rest) Q a w:=fun b k cs Stop d l=>.ctl rfl d.2 (fun m=>stepG_unwanted e j) (h b k cs Stop d l)
def WT{R:Array Oper}{l:Oper}{Q:Exit→Act→World→Prop}{a:Act}{w:World}(j:R[i]? =some l)(m:Region.wanted l (yielded R a.tmps)=true)
 (h:l.en P a w fun p w'=>zE P R rest Q p w'):zE P R (i::rest) Q a w:=by
 intro b k cs Stop c o;refine .one rfl c.2 fun q s=>?_;obtain⟨r,w',d,e⟩:=h q s;cases r with
 |value v=>exact⟨_,_,_,EH d (stepG_value j m c.1),fun n=>⟨EG d (e n).1 _,(e n).2 b k cs Stop c o⟩⟩|skip=>exact⟨_,_,_,EH d (stepG_none j m c.1),fun n=>⟨EG d (e n).1 _,(e n).2 b k cs Stop c o⟩⟩|enter f S=>
  obtain⟨rfl,t⟩:=e;refine⟨_,_,_,EH d (stepG_enter j m c.1),fun n=>⟨EG d (ff.refl _) _,t _ _ fun v x u=>?_⟩⟩;simp only[Iy];rw[Frame.finish_at,j];exact u b k cs Stop c o
 |_=>exact e.elim
def lP(P:Program)(R:Array Oper)(Q:Exit→Act→World→Prop):List Nat→Act→World→Prop
 |[],a,w=>Q .normal a w|i::rest,a,w=>
  match R[i]? with
  |none=>False|some c=>if Region.wanted c (yielded R a.tmps)then c.en P a w (lP P R Q rest)else lP P R Q rest (a.put c.dst undef) w
def EI{R:Array Oper}{Q:Exit→Act→World→Prop}:∀(d:List Nat) (a:Act) (w:World),lP P R Q d a w→zE P R d Q a w
 |[],a,w,h=>WR h|i::rest,a,w,h=>by
  unfold lP at h;split at h
  ·exact h.elim
  ·rename_i j e;split at h
   ·rename_i c;exact WT e c (Oper.B4 (fun a w=>EI rest a w) h)
   ·rename_i c;exact WS e (by simpa using c) (EI rest _ _ h)
section
variable{Q:Exit→Act→World→Prop}{a:Act}{w:World}{R:Array Oper}
def Ot(h:lP P R Q (List.range R.size) a w):(Code.region id R false).en P Q a w:=
 fun b k cs Stop c d=>.ctl rfl c.2 (fun e=>stepG_region) (EI _ _ _ h b k cs Stop c d)
def uW(P:Program)(R:Array Oper)(i:Nat)(ek:Act→World→Prop)(a:Act)(w:World):Prop:=
 match R[i]? with
 |none=>False|some c=>if Region.wanted c (yielded R a.tmps)then c.en P a w ek else ek (a.put c.dst undef) w
def WU{a:Act}{w:World}(h:∀a w,ek a w→V a w)(c:uW P R i ek a w):uW P R i V a w:=by
 unfold uW at *;split
 ·simp_all
 ·rename_i j e;simp only[e]at c;split
  ·rename_i d;simp only[d,g6]at c;exact Oper.B4 h c
  ·rename_i d;simp only[d]at c;exact h _ _ c
def WV(i:Nat)(rest:List Nat)(a:Act)(w:World):lP P R Q (i::rest) a w=uW P R i (lP P R Q rest) a w:=by
 simp only[lP,uW]
def EJ(P:Program)(c:Region.Mode)(R:Array Oper)(Q:Exit→Act→World→Prop):Nat→Array Bool→Act→World→Prop
 |0,listed,a,w=>Region.ready c R listed=[]∧Q .normal a w|d+1,listed,a,w=>
  (Region.ready c R listed=[]→Q .normal a w)∧
  ∀i∈Region.ready c R listed,uW P R i (EJ P c R Q d (listed.setIfInBounds i true)) a w
def WW{c:Region.Mode}:∀(d t:Nat) (listed:Array Bool) (a:Act) (w:World),EJ P c R Q d listed a w→
 lP P R Q (Region.linearise.go c R d t listed []) a w:=by
 intro d
 induction d with
 |zero=>intro t listed a w h;simpa[Region.linearise.go,lP]using h.2|succ d l=>
  intro t listed a w h;obtain⟨m,n⟩:=h;simp only[Region.linearise.go];change lP P R Q (match(Region.ready c R listed)[t%(Region.ready c R listed).length]? with
   |some i=>Region.linearise.go c R d (t/(Region.ready c R listed).length) (listed.setIfInBounds i true) [i]|none=>[].reverse) a w
  cases hi:(Region.ready c R listed)[t%(Region.ready c R listed).length]? with
  |none=>
   have o:Region.ready c R listed=[]:=by
    cases p:Region.ready c R listed with
    |nil=>rfl|cons e j=>
     rw[p]at hi;have q:t%(e::j).length<(e::j).length:=qv _ (by simp);simp at hi;simp at q;omega
   simpa[lP]using m o
  |some i=>
   simp only[];rw[linearise_go_acc,List.reverse_singleton,List.singleton_append,WV];exact WU (fun a w=>l _ _ a w) (n i (pJ hi))
def Ou:
 stepG P main (G (b.at a (.code (.region id R true)::k)) cs) w=
  .go (G (b.at a (.inRegion R (Region.schedule (P.follows .mixedOrders) R (w.tape w.drawn (.order b.fn id)))::k)) cs) {w with drawn:=w.drawn+1}:=by
 simp[G,stepG,stepG.exec,Frame.at,choose,Sem.run,Question.forced,Question.cut]
def WX(j:P.follows .mixedOrders=true)
 (h:∀d,eK w d→EJ P .any R Q R.size (Array.replicate R.size false) a {d with drawn:=d.drawn+1}):(Code.region id R true).en P Q a w:=by
 intro b k cs Stop e l;refine .one rfl e.2 fun d m=>⟨_,_,_,⟨Ou,fun v c=>⟨{v with drawn:=v.drawn+1},by rw[Ou,c.tape,c.drawn],⟨c.os,c.tape,c.output,by show v.drawn+1=_;rw[c.drawn],c.size,c.same,c.shr⟩,.refl _,aV _⟩⟩,fun _=>⟨rU.drew _,?_⟩⟩;simp only[Region.schedule,j,Bool.true_or,g6];exact EI _ _ _ (WW R.size _ _ a _ (h d m)) b k cs Stop e l
end
def Ov(P:Program)(fn:Func)(T:Ending→World→Prop):Exit→Act→World→Prop|.normal,a,w|.ret,a,w=>a.defers=[]∧∃v,(∀c,eK w c→(results fn a.tmps).aI P c=.ok v c)∧T (.returned v) w|_,_,_=>False
def Ow{c:Code}{w:World}(e:aG.plain f)(j:P.funcs[f]? =some fn)(p:fn.body=some c)
 (h:c.en P (Ov P fn T) {tmps:=S++Array.replicate (fn.ntmps-S.size) undef,defers:=[]} w):j6 P f S w T:=by
 intro cs Stop r;rw[enter_at _ j p];have n:∀(fr:Frame) (v:Value) (w':World),T (.returned v) w'→ED P f v w' fr→de P Stop (G fr cs) w':=by
  intro fr v w' d o;have:=r v w' d;cases cs with
  |nil=>exact this fr o|cons c cs=>exact .Oq e o this
 refine h (base f) [] cs Stop ⟨by simp[base],e⟩ fun s t w' q=>?_;cases s with
 |normal=>
  obtain⟨l,v,m,d⟩:=q;exact .ctl rfl e (fun u=>stepG_end) (n _ v w' d ⟨rfl,rfl,l,rfl,fn,j,m⟩)
 |ret=>
  obtain⟨l,v,m,d⟩:=q;exact fun x=>n _ v w' d ⟨rfl,rfl,l,rfl,fn,j,m⟩
 |_=>exact q.elim
end
end
section
variable{n:Nat}{r:af}
def ai.ok(S:ai):Prop:=∀b∈S.cond,b=true
structure Pure(S S':ai):Prop where
 H:S'.H=S.H
 low:S'.low=S.low
 ok:S'.ok→S.ok
def Pure.refl(S:ai):Pure S S:=⟨rfl,rfl,id⟩
def Pure.trans{a b c:ai}(h:Pure a b)(k:Pure b c):Pure a c:=⟨k.H.trans h.H,k.low.trans h.low,fun d=>h.ok (k.ok d)⟩
def gi(S:ai)(b:Bool):Pure S (S.eU b):=⟨rfl,rfl,fun a c d=>a c (ng _ d)⟩
def gp{S:ai}{b:Bool}(h:(S.eU b).ok):b=true:=h b (lK ..)
def B.oO{b:B}{S a:ai}{t:Bool}(h:b.test S=some (t,a)):Pure S a∧(a.ok→b.v=t):=by
 unfold B.test at h;cases b with
 |c b=>simp at h;obtain⟨rfl,rfl⟩:=h;exact⟨Pure.refl _,fun _=>rfl⟩
 |s b=>
  simp only at h;cases f:S.dec with
  |nil=>simp[f]at h|cons d r=>
   simp[f]at h;obtain⟨rfl,rfl⟩:=h;refine⟨⟨rfl,rfl,fun e g i=>e g (ng _ i)⟩,fun e=>?_⟩;have:=e (b==d) (lK ..);simpa[B.v]using this
def B.fT{b:B}{S a:ai}(h:b.cj S=some a):Pure S a∧(a.ok→b.v=true):=by
 unfold B.cj at h;cases b with
 |c b=>cases b<;>simp at h;subst h;exact⟨Pure.refl _,fun _=>rfl⟩
 |s b=>simp at h;subst h;exact⟨gi _ _,fun d=>gp d⟩
def uX(a b:Int):kJ a b=decide (a≤b):=by
 cases a<;>cases b<;>simp only[kJ]
 ·rw[ox];simp
 ·rw[ox];simp;omega
 ·rw[ox];simp;omega
 ·rw[ox];simp;omega
def nv(a b:Int):kK a b=(a==b):=by
 cases a<;>cases b<;>simp only[kK]
 ·rw[ox];simp;omega
 ·rw[ox];simp
 ·rw[ox];simp
 ·rw[ox];simp;omega
def Ox(a b:Int):Em a b=decide (a<b):=by
 unfold Em;rw[uX,ox];simp;omega
def EK{a b:IntKind}(h:rO a b=true):a=b:=by cases a<;>cases b<;>simp[rO]at h<;>rfl
def tu(k:IntKind)(n:Int)(h1:lo k≤n)(h2:n≤hi k):k.wrap n=n:=by
 cases k<;>simp only[lo,hi]at h1 h2
 ·exact IntWalk.i8_in n ⟨h1,h2⟩
 ·exact IntWalk.i16_in n ⟨h1,h2⟩
 ·exact IntWalk.i32_in n ⟨h1,h2⟩
 ·exact IntWalk.i64_in n ⟨h1,h2⟩
 ·exact IntWalk.u8_in n ⟨h1,h2⟩
 ·exact IntWalk.u16_in n ⟨h1,h2⟩
 ·exact IntWalk.u32_in n ⟨h1,h2⟩
 ·exact IntWalk.u64_in n ⟨h1,h2⟩
def uY(k:IntKind)(n:Int):qA k n=k.wrap n:=by
 unfold qA;cases h1:kJ (lo k) n<;>simp only;cases h2:kJ n (hi k)<;>simp only;rw[uX]at h1 h2;exact(tu k n (by simpa using h1) (by simpa using h2)).symm
def B.uZ(a b:B):(a.and b).v=(a.v&&b.v):=by cases a<;>cases b<;>rfl
def B.Iz(a:B):a.not.v= !a.v:=by cases a<;>rfl
def Z.IA(a b:Z):(a.lt b).v=decide (a.v<b.v):=by
 cases a<;>cases b<;>first|rfl|exact Ox _ _
def Z.jO(a b:Z):(a.le b).v=decide (a.v≤b.v):=by
 cases a<;>cases b<;>first|rfl|exact uX _ _
def Z.B5(a b:Z):(a.eq b).v=(a.v==b.v):=by cases a<;>cases b<;>simp[Z.eq,B.v,Z.v,nv]
def N.jO(a b:N):(a.le b).v=decide (a.v≤b.v):=by
 cases a<;>cases b
 ·rename_i a b;show Nat.ble a b=decide (a≤b);rw[ox];simp
 ·rfl
 ·rfl
 ·rfl
def N.B5(a b:N):(a.eq b).v=(a.v==b.v):=by
 cases a<;>cases b
 ·rename_i a b;show Nat.beq a b=(a==b);rw[ox];simp
 ·rfl
 ·rfl
 ·rfl
def N.toZ_v(a:N):a.toZ.v=(a.v:Int):=by cases a<;>rfl
def Z.toN_v(a:Z):a.toN.v=a.v.toNat:=by cases a<;>rfl
def N.IB(f:Nat→Nat→Nat)(a b:N):(N.En f a b).v=f a.v b.v:=by cases a<;>cases b<;>rfl
def N.gM(a b:N):(a.add b).v=a.v+b.v:=N.IB _ a b
def N.B6(a b:N):(a.sub b).v=a.v-b.v:=N.IB _ a b
def N.WY(a b:N):(a.min b).v=Nat.min a.v b.v:=N.IB _ a b
def N.u0(a:N)(n:Nat):(a.ir n).v=a.v*n:=by cases a<;>rfl
def bk.k:bk→IntKind|.int k _=>k|.bP _=>.u8|.cX _=>.u16|.aF _=>.u32|.av _=>.u64
def bk.val(a:bk):Value:=.int a.k a.z.v
def EL{k b:IntKind}{a:Int}{e:BitVec n}(h:y9 n k b a=some e):k=b∧a=(e.toNat:Int):=by
 unfold y9 at h;cases c:rO k b with
 |false=>simp[c]at h|true=>
  simp only[c]at h;cases a with
  |negSucc a=>simp at h|ofNat a=>
   simp only at h;cases d:Nat.blt a (2^n)with
   |false=>simp[d]at h|true=>
    simp[d]at h;refine⟨EK c,?_⟩;subst h;have:a<2^n:=by simpa using d
    simp[g7,dO this]
def bk.rV{v:bk}{a:BitVec 8}(h:v.fE=some a):v.val=.int .u8 a.toNat:=by
 cases v with
 |int k z=>cases z<;>simp[bk.fE]at h;obtain⟨rfl,rfl⟩:=EL h;rfl
 |bP b=>simp[bk.fE]at h;subst h;rfl|_=>simp[bk.fE]at h
def bk.B7{v:bk}{a:BitVec 16}(h:v.mD=some a):v.val=.int .u16 a.toNat:=by
 cases v with
 |int k z=>cases z<;>simp[bk.mD]at h;obtain⟨rfl,rfl⟩:=EL h;rfl
 |cX b=>simp[bk.mD]at h;subst h;rfl|_=>simp[bk.mD]at h
def bk.u5{v:bk}{a:BitVec 32}(h:v.iu=some a):v.val=.int .u32 a.toNat:=by
 cases v with
 |int k z=>cases z<;>simp[bk.iu]at h;obtain⟨rfl,rfl⟩:=EL h;rfl
 |aF b=>simp[bk.iu]at h;subst h;rfl|_=>simp[bk.iu]at h
def bk.oP{v:bk}{a:BitVec 64}(h:v.fF=some a):v.val=.int .u64 a.toNat:=by
 cases v with
 |int k z=>cases z<;>simp[bk.fF]at h;obtain⟨rfl,rfl⟩:=EL h;rfl
 |av b=>simp[bk.fF]at h;subst h;rfl|_=>simp[bk.fF]at h
inductive b5:af→Value→Prop
 |num (n:bk):b5 (.num n) n.val|bool (b:B):b5 (.atom (.bool b)) (.bool b.v)
def b5.int(k:IntKind)(z:Z):b5 (.num (.int k z)) (.int k z.v):=.num (.int k z)
def b5.bP(a:BitVec 8):b5 (.num (.bP a)) (.int .u8 a.toNat):=.num (.bP a)
def b5.cX(a:BitVec 16):b5 (.num (.cX a)) (.int .u16 a.toNat):=.num (.cX a)
def b5.aF(a:BitVec 32):b5 (.num (.aF a)) (.int .u32 a.toNat):=.num (.aF a)
def b5.av(a:BitVec 64):b5 (.num (.av a)) (.int .u64 a.toNat):=.num (.av a)
section words
variable [aG]{P:Program}(w:World)
def eE:Nat→IntKind|8=>.u8|16=>.u16|32=>.u32|_=>.u64
def width(n:Nat):Prop:=n=8∨n=16∨n=32∨n=64
def WZ(h:width n):(eE n).bits=n:=by rcases h with rfl|rfl|rfl|rfl<;>rfl
def u6(h:width n)(a:Int):(eE n).wrap a=a%(2^n:Nat):=by
 rcases h with rfl|rfl|rfl|rfl<;>simp[eE,IntKind.wrap,IntKind.signed,IntKind.bits]
def EM(h:width n)(a:BitVec n):(eE n).wrap (a.toNat:Int)=a.toNat:=by
 rw[u6 h];have:=a.isLt;exact VR (by omega) (by omega)
def W0(d:width n)(a b:BitVec n)(c:BinOp):
 (c=.and→(Op.intBits c (eE n) a.toNat b.toNat).aI P w=.ok (.int (eE n) (a&&&b).toNat) w)∧
 (c=.or→(Op.intBits c (eE n) a.toNat b.toNat).aI P w=.ok (.int (eE n) (a|||b).toNat) w)∧
 (c=.xor→(Op.intBits c (eE n) a.toNat b.toNat).aI P w=.ok (.int (eE n) (a^^^b).toNat) w)∧
 (c=.andNot→(Op.intBits c (eE n) a.toNat b.toNat).aI P w=.ok (.int (eE n) (a&&&~~~b).toNat) w):=by
 have e:=EM d;rcases d with rfl|rfl|rfl|rfl<;>refine⟨?_,?_,?_,?_⟩<;>rintro rfl<;>
  simp only[Op.intBits,eE,IntKind.bits,uD,VS,VT,Sem.fS,Result.ok.injEq,Value.int.injEq,HQ,uE]<;>
  exact e _
def W1(e:width n)(mk:BitVec n→af)(c:∀b,b5 (mk b) (.int (eE n) b.toNat))(f:BinOp)(b a:BitVec n)(t:TypeId){S i:ai}
 (h:za f n mk b a S=some (r,i)):Pure S i∧(i.ok→∃v,(binOp f t (.int (eE n) b.toNat) (.int (eE n) a.toNat)).aI P w=.ok v w∧b5 r v):=by
 have g:=W0 (P:=P) w e b a f;have o:=b.isLt;have p:=a.isLt;have k:∀(d:a≠0),¬((a.toNat:Int)=0):=by
  intro d h1;apply d;apply mo;simpa using h1
 cases f<;>simp only[za,Ic,aD,aO,reduceCtorEq]at h<;>obtain⟨rfl,rfl⟩:=h<;>
  first
   |refine⟨Pure.refl _,fun _=>?_⟩|refine⟨gi _ _,fun l=>?_⟩
 case add=>
  refine⟨_,?_,c _⟩;simp[binOp,Op.intArith,u6 e]
 case sub=>
  refine⟨_,?_,c _⟩;simp only[binOp,mq,mu,ee,Op.intArith,u6 e,Sem.fS,kG];have m:((2^n-a.toNat+b.toNat:Nat):Int)=((b.toNat:Int)-a.toNat)+((2^n:Nat):Int):=by omega
  rw[NW,m,VU]
 case mul=>
  refine⟨_,?_,c _⟩;simp[binOp,Op.intArith,u6 e]
 case quo=>
  have d:a≠0:=by have:=gp l;simpa using this
  refine⟨_,?_,c _⟩;have j:((b.toNat:Int).tdiv a.toNat)=((b/a).toNat:Int):=by
   rw[rI];rfl
  simp only[binOp,mq,mu,ee,Op.intDiv,k d,j,EM e,Sem.fS]
 case rem=>
  have d:a≠0:=by have:=gp l;simpa using this
  refine⟨_,?_,c _⟩;have j:((b.toNat:Int).tmod a.toNat)=((b%a).toNat:Int):=by
   rw[oy];rfl
  simp only[binOp,mq,mu,ee,Op.intDiv,k d,j,Sem.fS]
 case and=>exact⟨_,by simpa[binOp]using g.1 rfl,c _⟩
 case or=>exact⟨_,by simpa[binOp]using g.2.1 rfl,c _⟩
 case xor=>exact⟨_,by simpa[binOp]using g.2.2.1 rfl,c _⟩
 case andNot=>exact⟨_,by simpa[binOp]using g.2.2.2 rfl,c _⟩
 case eql=>
  refine⟨_,?_,b5.bool (.s (b==a))⟩;simp only[binOp,mq,mu,ee,Op.intCmp,Sem.fS,B.v];congr 2;rw[ox];simp[VV];omega
 case neq=>
  refine⟨_,?_,b5.bool (.s (b !=a))⟩;simp only[binOp,mq,mu,ee,Op.intCmp,Sem.fS,B.v];congr 2;rw[ox];simp[VV];omega
 all_goals
  refine⟨_,?_,b5.bool (.s _)⟩;simp only[binOp,mq,mu,ee,Op.intCmp,Sem.fS,B.v];congr 2;rw[ox];simp only[jI];omega
def EN(k:width n)(mk:BitVec n→af)(o:∀a,b5 (mk a) (.int (eE n) a.toNat))(e:BinOp)(a:BitVec n)(b:Z)(t:TypeId)(p:IntKind){S f:ai}
 (h:tc mk e a b S=some (r,f)):Pure S f∧(f.ok→∃v,(binOp e t (.int (eE n) a.toNat) (.int p b.v)).aI P w=.ok v w∧b5 r v):=by
 unfold tc at h;cases g:((Z.c 0).le b).cj S with
 |none=>simp[g]at h|some A=>
  simp only[g]at h;obtain⟨q,s⟩:=B.fT g;have l:=a.isLt;cases e<;>simp only[Bx,Ie,aD,aO,reduceCtorEq]at h<;>obtain⟨rfl,rfl⟩:=h<;>refine⟨q,fun u=>?_⟩
  all_goals
   have i:=s u;rw[Z.jO]at i;have i:0≤b.v:=bg i;refine⟨_,?_,o _⟩;simp only[binOp,Op.shift,ak (show¬b.v<0 by omega),WZ k,Sem.fS];congr 2
  ·rw[u6 k,anN,VW];by_cases j:b.v.toNat≤n
   ·rw[Be j]
    norm_cast
   ·rw[HR (by omega)];obtain⟨d,x⟩:∃d,b.v.toNat=n+d:=⟨b.v.toNat-n,by omega⟩;rw[x,Nat.pow_add];have y:((a.toNat:Int)*2^n)%((2^n:Nat):Int)=0:=by
     push_cast;exact Int.mul_emod_left _ _
    rw[y,←iV,Nat.mul_right_comm,Nat.mul_mod_left];rfl
  ·rw[yY,wU];have z:∀m:Nat,((a.toNat:Int).fdiv (2^m))=((a.toNat/2^m:Nat):Int):=by
    intro m;rw[VX _ (by exact_mod_cast j0 _)]
    norm_cast
   rw[z];by_cases j:b.v.toNat≤n
   ·rw[Be j]
   ·rw[HR (by omega),Bf l,Bf];exact dN l (Nat.pow_le_pow_right (by omega) (by omega))
end words
end
section
variable{T:BinOp}{r:af}{S U:ai}{k:IntKind}{n:Nat}{Q:bk}{m:Nat}{z:Z}{R:bk}{V:Value}
section
variable [aG]{P:Program}(w:World)
def W2{f:Z→Z→B}(h:qB T=some f)(k:IntKind)(Q R:Z)(t:TypeId):
 (binOp T t (.int k Q.v) (.int k R.v)).aI P w=.ok (.bool (f Q R).v) w:=by
 cases T<;>simp only[qB,aD,reduceCtorEq]at h<;>subst h<;>
  simp only[binOp,mq,mu,ee,Op.intCmp,Sem.fS,Z.B5,Z.IA,Z.jO,B.Iz]<;>rfl
def Oy{f:(n:Nat)→BitVec n→BitVec n→BitVec n}(g:Nat→Nat→Nat)(c:∀n (Q R:BitVec n),(f n Q R).toNat=g Q.toNat R.toNat)
 (a b:Nat) (i:(a:Int)≤hi k) (j:(b:Int)≤hi k) (d:((g a b:Nat):Int)≤hi k):
 k.wrap (f k.bits (BitVec.ofInt k.bits a) (BitVec.ofInt k.bits b)).toNat=(g a b:Nat):=by
 have l:hi k<((2^k.bits:Nat):Int):=by cases k<;>decide
 have o:lo k≤0:=by cases k<;>decide
 have e:(BitVec.ofInt k.bits (a:Int)).toNat=a:=by
  rw[uD,g7,dO (by omega)]
 have h:(BitVec.ofInt k.bits (b:Int)).toNat=b:=by
  rw[uD,g7,dO (by omega)]
 rw[c,e,h];exact tu k _ (by omega) d
def Oz(k:IntKind):∃m,hi k=((2^m:Nat):Int)-1:=by
 cases k
 ·exact⟨7,by decide⟩
 ·exact⟨15,by decide⟩
 ·exact⟨31,by decide⟩
 ·exact⟨63,by decide⟩
 ·exact⟨8,by decide⟩
 ·exact⟨16,by decide⟩
 ·exact⟨32,by decide⟩
 ·exact⟨64,by decide⟩
def W3(k:IntKind)(a b:Nat)(c:(a:Int)≤hi k):((a&&&b:Nat):Int)≤hi k:=by
 have:a&&&b≤a:=Nat.and_le_left;omega
def W4(k:IntKind)(a b:Nat)(c:(a:Int)≤hi k)(d:(b:Int)≤hi k):((a|||b:Nat):Int)≤hi k:=by
 obtain⟨m,e⟩:=Oz k;have:a|||b<2^m:=Nat.or_lt_two_pow (by omega) (by omega);omega
def OA(k:IntKind)(a b:Nat)(c:(a:Int)≤hi k)(d:(b:Int)≤hi k):((a^^^b:Nat):Int)≤hi k:=by
 obtain⟨m,e⟩:=Oz k;have:a^^^b<2^m:=Nat.xor_lt_two_pow (by omega) (by omega);omega
def IC(k:IntKind)(f:(n:Nat)→BitVec n→BitVec n→BitVec n)(g:Nat→Nat→Nat)(c:∀n (Q R:BitVec n),(f n Q R).toNat=g Q.toNat R.toNat)
 (d:∀a b:Nat,(a:Int)≤hi k→(b:Int)≤hi k→((g a b:Nat):Int)≤hi k) (a b:Int):
 By k (fun _=>k.wrap (f k.bits (BitVec.ofInt k.bits a) (BitVec.ofInt k.bits b)).toNat) g a b=
  k.wrap (f k.bits (BitVec.ofInt k.bits a) (BitVec.ofInt k.bits b)).toNat:=by
 unfold By;cases a<;>simp only;cases b<;>simp only;rename_i a b;cases h1:kJ (Int.ofNat a) (hi k)<;>simp only;cases h2:kJ (Int.ofNat b) (hi k)<;>simp only;rw[uX]at h1 h2;have h1:(a:Int)≤hi k:=bg h1;have h2:(b:Int)≤hi k:=bg h2;exact(Oy g c a b h1 h2 (d a b h1 h2)).symm
def W5{f:IntKind→Int→Int→Option Z}(h:Bz T=some f)(k:IntKind)(a b:Int)(c:f k a b=some z)(t:TypeId):
 (binOp T t (.int k a) (.int k b)).aI P w=.ok (.int k z.v) w:=by
 have g:=IC k (fun n Q R=>Q&&&R) Nat.land (fun n Q R=>VY Q R) (fun a b e _=>W3 k a b e);have i:=IC k (fun n Q R=>Q|||R) Nat.lor (fun n Q R=>BitVec.toNat_or Q R) (fun a b e d=>W4 k a b e d);have j:=IC k (fun n Q R=>Q^^^R) Nat.xor (fun n Q R=>BitVec.toNat_xor Q R) (fun a b e d=>OA k a b e d);cases T<;>simp only[Bz,aD,reduceCtorEq]at h<;>subst h
 case add=>simp only[aD]at c;subst c;simp[binOp,Op.intArith,Z.v,uY]
 case sub=>simp only[aD]at c;subst c;simp[binOp,Op.intArith,Z.v,uY]
 case mul=>simp only[aD]at c;subst c;simp[binOp,Op.intArith,Z.v,uY]
 case quo=>
  simp only at c;cases d:kK b 0 with
  |true=>simp[d]at c|false=>
   simp only[d,aD]at c;subst c;rw[nv]at d;have d:¬b=0:=by simpa using d
   simp[binOp,Op.intDiv,Z.v,uY,d]
 case rem=>
  simp only at c;cases d:kK b 0 with
  |true=>simp[d]at c|false=>
   simp only[d,aD]at c;subst c;rw[nv]at d;have d:¬b=0:=by simpa using d
   simp[binOp,Op.intDiv,Z.v,d]
 case and=>simp only[aD]at c;subst c;simp only[binOp,mq,mu,ee,Op.intBits,Sem.fS,Z.v,g]
 case or=>simp only[aD]at c;subst c;simp only[binOp,mq,mu,ee,Op.intBits,Sem.fS,Z.v,i]
 case xor=>simp only[aD]at c;subst c;simp only[binOp,mq,mu,ee,Op.intBits,Sem.fS,Z.v,j]
 case andNot=>simp only[aD]at c;subst c;simp only[binOp,mq,mu,ee,Op.intBits,Sem.fS,Z.v]
def W6{f:IntKind→Int→Int→ai→af×ai}(h:BA T=some f)(k:IntKind)(a b:Int)(S:ai)(t:TypeId):
 Pure S (f k a b S).2∧((f k a b S).2.ok→∃v,(binOp T t (.int k a) (.int k b)).aI P w=.ok v w∧b5 (f k a b S).1 v):=by
 cases T<;>simp only[BA,aD,reduceCtorEq]at h<;>subst h<;>refine⟨gi _ _,fun e=>?_⟩<;>
  have c:=bg (gp e)<;>refine⟨_,?_,b5.int _ _⟩
 case add=>simp[binOp,Op.intArith,Z.v,tu k _ c.1 c.2]
 case sub=>simp[binOp,Op.intArith,Z.v,tu k _ c.1 c.2]
 case mul=>simp[binOp,Op.intArith,Z.v,tu k _ c.1 c.2]
 case quo=>
  obtain⟨h1,h2,h3⟩:=c;have g:¬b=0:=by omega
  have i:lo k≤0:=by cases k<;>decide
  have d:a.tdiv b=a/b:=pK h1;have j:0≤a/b:=Int.ediv_nonneg h1 (by omega);have l:a/b≤a:=Int.ediv_le_self b h1;simp only[binOp,mq,mu,ee,Op.intDiv,g,Sem.fS,Z.v];rw[tu k _ (by omega) (by omega)]
 case rem=>simp only[binOp,mq,mu,ee,Op.intDiv,(show¬b=0 from c),Sem.fS,Z.v]
 case and=>simp only[binOp,mq,mu,ee,Op.intBits,Sem.fS,Z.v,Oa]
 case or=>simp only[binOp,mq,mu,ee,Op.intBits,Sem.fS,Z.v,Ob]
 case andNot=>simp only[binOp,mq,mu,ee,Op.intBits,Sem.fS,Z.v,bp]
 case xor=>
  obtain⟨h1,h2,h3,h4⟩:=c;obtain⟨Q,rfl⟩:=NY h1;obtain⟨R,rfl⟩:=NY h2;have d:=Oy (k:=k) (f:=fun n Q R=>Q^^^R) (fun a b=>a^^^b) (fun n Q R=>BitVec.toNat_xor Q R) Q R h3 h4 (OA k Q R h3 h4);simp only[binOp,mq,mu,ee,Op.intBits,Sem.fS,Z.v,d,eA]
def W7{Q R:Z}(h:intArith T k Q R S=some (r,U))(t:TypeId):
 Pure S U∧(U.ok→∃v,(binOp T t (.int k Q.v) (.int k R.v)).aI P w=.ok v w∧b5 r v):=by
 unfold intArith at h;cases e:qB T with
 |some f=>
  simp only[e,aD,aO]at h;obtain⟨rfl,rfl⟩:=h;exact⟨Pure.refl _,fun _=>⟨_,W2 w e k Q R t,.bool _⟩⟩
 |none=>
  simp only[e]at h;have g:∀a b,uK T k a b S=some (r,U)→Pure S U∧(U.ok→∃v,(binOp T t (.int k a) (.int k b)).aI P w=.ok v w∧b5 r v):=by
   intro a b h;unfold uK at h;cases d:BA T with
   |none=>simp[d]at h|some f=>
    simp only[d,aD]at h;have:=W6 (P:=P) w d k a b S t;rw[h]at this;exact this
  cases Q with
  |s a=>
   cases R with
   |s b=>exact g _ _ h|c b=>exact g _ _ h
  |c a=>
   cases R with
   |s b=>exact g _ _ h|c b=>
    simp only at h;cases d:Bz T with
    |none=>simp[d]at h|some f=>
     simp only[d]at h;cases i:f k a b with
     |none=>simp[i]at h|some z=>
      simp only[i,aD,aO]at h;obtain⟨rfl,rfl⟩:=h;exact⟨Pure.refl _,fun _=>⟨_,W5 w d k a b i t,.int _ _⟩⟩
def W8{a r:Int}(h:BB T k a n=some r)(t:TypeId)(c:IntKind):
 (binOp T t (.int k a) (.int c n)).aI P w=.ok (.int k r) w:=by
 have b:¬((n:Int)<0):=by omega
 cases T<;>simp only[BB,reduceCtorEq]at h
 case shl=>
  cases a with
  |ofNat Q=>
   simp only[aD]at h;subst h;simp only[binOp,Op.shift,b,ee,eA,Sem.fS,uY];congr 3
   show Int.ofNat Q*2^min n k.bits=Int.ofNat (Q<<<(min n k.bits));rw[VW];simp
  |negSucc Q=>
   simp only[aD]at h;subst h;simp only[binOp,Op.shift,b,ee,eA,Sem.fS]
 case shr=>
  cases a with
  |ofNat Q=>
   simp only[aD]at h;subst h;simp only[binOp,Op.shift,b,ee,eA,Sem.fS];congr 2
   show(Int.ofNat Q).fdiv (2^min n k.bits)=Int.ofNat (Q>>>(min n k.bits));rw[wU,VX _ (by exact_mod_cast j0 _)];simp
  |negSucc Q=>
   simp only[aD]at h;subst h;simp only[binOp,Op.shift,b,ee,eA,Sem.fS]
def W9{e:Z}(h:zb k z T e S=some (r,U))(t:TypeId)(i:IntKind):
 Pure S U∧(U.ok→∃v,(binOp T t (.int k z.v) (.int i e.v)).aI P w=.ok v w∧b5 r v):=by
 unfold zb at h;cases e with
 |s b=>simp at h|c b=>
  simp only at h;cases d:kJ 0 b with
  |false=>simp[d]at h|true=>
   rw[uX]at d;have o:0≤b:=bg d;obtain⟨n,rfl⟩:=NY o;simp only[show kJ 0 (n:Int)=true by rw[uX];exact d]at h;have j:¬((n:Int)<0):=by omega
   cases z with
   |c a=>
    simp only[eA]at h;cases f:BB T k a n with
    |none=>simp[f]at h|some q=>
     simp only[f,aD,aO]at h;obtain⟨rfl,rfl⟩:=h;exact⟨Pure.refl _,fun _=>⟨_,W8 w f t i,.int _ _⟩⟩
   |s a=>
    simp only[eA]at h;cases g:Nat.blt n k.bits with
    |false=>simp[g]at h|true=>
     have u:n<k.bits:=by simpa using g
     have l:min n k.bits=n:=Be (by omega);cases T<;>simp only[g,aD,aO,reduceCtorEq]at h<;>obtain⟨rfl,rfl⟩:=h
     ·refine⟨Pure.refl _,fun p=>⟨_,?_,b5.int _ _⟩⟩;simp only[binOp,Op.shift,Z.v,j,ee,eA,l,Sem.fS,Oc]
     ·refine⟨Pure.refl _,fun p=>⟨_,?_,b5.int _ _⟩⟩;simp only[binOp,Op.shift,Z.v,j,ee,eA,l,Sem.fS];rw[VX _ (by exact_mod_cast j0 _)]
def u7(c:width n)(mk:BitVec n→af)(d:∀Q,b5 (mk Q) (.int (eE n) Q.toNat)){Q R:Option (BitVec n)}{a:Value}
 (e:∀b,Q=some b→V=.int (eE n) b.toNat) (f:∀b,R=some b→a=.int (eE n) b.toNat) (h:oD mk T Q R S=some (r,U)) (t:TypeId):
 Pure S U∧(U.ok→∃v,(binOp T t V a).aI P w=.ok v w∧b5 r v):=by
 unfold oD at h;cases Q with
 |none=>simp at h|some Q=>
  cases R with
  |none=>simp at h|some R=>
   rw[e Q rfl,f R rfl];exact W1 w c mk d T Q R t h
def u9:width 8:=.inl rfl
def va:width 16:=.inr (.inl rfl)
def vb:width 32:=.inr (.inr (.inl rfl))
def vc:width 64:=.inr (.inr (.inr rfl))
def Xa(h:zc Q R T S=some (r,U))(t:TypeId):
 Pure S U∧(U.ok→∃v,(binOp T t Q.val R.val).aI P w=.ok v w∧b5 r v):=by
 have one:∀{n:Nat} (b c:BitVec n),some b=some c→(Value.int (eE n) b.toNat)=.int (eE n) c.toNat:=by
  intro n b c e;injection e with e;rw[e]
 cases Q with
 |int k a=>
  simp only[zc]at h;cases R with
  |int g b=>
   simp only[BD]at h;cases f:rO k g with
   |false=>simp[f]at h|true=>
    simp only[f]at h;obtain rfl:=EK f;exact W7 w h t
  |bP R=>exact u7 w u9 .bP (fun Q=>b5.bP Q) (fun b d=>bk.rV d) (fun b d=>one R b d) h t|cX R=>exact u7 w va .cX (fun Q=>b5.cX Q) (fun b d=>bk.B7 d) (fun b d=>one R b d) h t|aF R=>exact u7 w vb .aF (fun Q=>b5.aF Q) (fun b d=>bk.u5 d) (fun b d=>one R b d) h t|av R=>exact u7 w vc .av (fun Q=>b5.av Q) (fun b d=>bk.oP d) (fun b d=>one R b d) h t
 |bP Q=>exact u7 w u9 .bP (fun Q=>b5.bP Q) (fun b d=>one Q b d) (fun b d=>bk.rV d) h t|cX Q=>exact u7 w va .cX (fun Q=>b5.cX Q) (fun b d=>one Q b d) (fun b d=>bk.B7 d) h t|aF Q=>exact u7 w vb .aF (fun Q=>b5.aF Q) (fun b d=>one Q b d) (fun b d=>bk.u5 d) h t|av Q=>exact u7 w vc .av (fun Q=>b5.av Q) (fun b d=>one Q b d) (fun b d=>bk.oP d) h t
def Xb(h:BC Q T R.z S=some (r,U))(t:TypeId):
 Pure S U∧(U.ok→∃v,(binOp T t Q.val R.val).aI P w=.ok v w∧b5 r v):=by
 cases Q with
 |int k z=>exact W9 w h t R.k|bP Q=>exact EN w u9 .bP (fun Q=>b5.bP Q) T Q R.z t R.k h|cX Q=>exact EN w va .cX (fun Q=>b5.cX Q) T Q R.z t R.k h|aF Q=>exact EN w vb .aF (fun Q=>b5.aF Q) T Q R.z t R.k h|av Q=>exact EN w vc .av (fun Q=>b5.av Q) T Q R.z t R.k h
def Xc{Q R:af}(h:binop T Q R S=some (r,U))(t:TypeId):
 ∃a b,Q=.num a∧R=.num b∧Pure S U∧(U.ok→∃v,(binOp T t a.val b.val).aI P w=.ok v w∧b5 r v):=by
 unfold ay.binop at h;cases Q<;>try(simp at h;done)
 rename_i a;cases R<;>try(simp at h;done)
 rename_i b;refine⟨a,b,rfl,rfl,?_⟩;simp only at h;cases c:If T with
 |true=>simp only[c]at h;exact Xb w h t|false=>simp only[c]at h;exact Xa w h t
def EO{a b c d:af}(h:uL k n a b c d S=some (r,U))
 (f:b5 a (.int .u8 (IntKind.u8.wrap n))) (g:b5 b (.int .u16 (IntKind.u16.wrap n))) (i:b5 c (.int .u32 (IntKind.u32.wrap n))) (e:b5 d (.int .u64 (IntKind.u64.wrap n))):
 Pure S U∧(U.ok→b5 r (.int k (k.wrap n))):=by
 cases k<;>simp only[uL,aD,aO]at h<;>obtain⟨rfl,rfl⟩:=h
 case u8=>exact⟨Pure.refl _,fun _=>f⟩
 case u16=>exact⟨Pure.refl _,fun _=>g⟩
 case u32=>exact⟨Pure.refl _,fun _=>i⟩
 case u64=>exact⟨Pure.refl _,fun _=>e⟩
 all_goals
  refine⟨gi _ _,fun j=>?_⟩;have e:=bg (gp j);rw[tu _ _ (by simp only[lo];omega) e];exact b5.int _ _
def mL(a:width m)(Q:BitVec n)(mk:BitVec m→af)(b:∀Q,b5 (mk Q) (.int (eE m) Q.toNat)):b5 (mk (Q.setWidth m)) (.int (eE m) ((eE m).wrap Q.toNat)):=by
 have:=b (Q.setWidth m);rw[u6 a];rw[kH]at this
 rwa[←NW]
def EP(a:width m)(Q:BitVec m)(mk:BitVec m→af)(b:∀Q,b5 (mk Q) (.int (eE m) Q.toNat)):b5 (mk Q) (.int (eE m) ((eE m).wrap Q.toNat)):=by
 rw[EM a];exact b Q
def EQ(a:width m)(n:Int)(mk:BitVec m→af)(b:∀Q,b5 (mk Q) (.int (eE m) Q.toNat)):b5 (mk (BitVec.ofInt m n)) (.int (eE m) ((eE m).wrap n)):=by
 have:=b (BitVec.ofInt m n);rw[u6 a];rw[qw,D9 (VZ _ (by rcases a with rfl|rfl|rfl|rfl<;>decide))]at this;exact this
def Xd{n:Int}(h:BE n k S=some (r,U)):Pure S U∧(U.ok→b5 r (.int k (k.wrap n))):=by
 cases k<;>simp only[BE,aD,aO]at h<;>obtain⟨rfl,rfl⟩:=h
 case u8=>exact⟨Pure.refl _,fun _=>EQ u9 n .bP (fun Q=>b5.bP Q)⟩
 case u16=>exact⟨Pure.refl _,fun _=>EQ va n .cX (fun Q=>b5.cX Q)⟩
 case u32=>exact⟨Pure.refl _,fun _=>EQ vb n .aF (fun Q=>b5.aF Q)⟩
 case u64=>exact⟨Pure.refl _,fun _=>EQ vc n .av (fun Q=>b5.av Q)⟩
 all_goals
  refine⟨gi _ _,fun b=>?_⟩;have a:=bg (gp b);rw[tu _ _ a.1 a.2];exact b5.int _ _
def Xe(h:w8 Q k S=some (r,U)):Pure S U∧(U.ok→b5 r (.int k (k.wrap Q.z.v))):=by
 have cF:∀{n:Nat} (Q:BitVec n),b5 (.num (.bP (Q.setWidth 8))) (.int .u8 (IntKind.u8.wrap Q.toNat)):=fun Q=>mL u9 Q .bP (fun Q=>b5.bP Q);have a:∀{n:Nat} (Q:BitVec n),b5 (.num (.cX (Q.setWidth 16))) (.int .u16 (IntKind.u16.wrap Q.toNat)):=fun Q=>mL va Q .cX (fun Q=>b5.cX Q);have b:∀{n:Nat} (Q:BitVec n),b5 (.num (.aF (Q.setWidth 32))) (.int .u32 (IntKind.u32.wrap Q.toNat)):=fun Q=>mL vb Q .aF (fun Q=>b5.aF Q);have d:∀{n:Nat} (Q:BitVec n),b5 (.num (.av (Q.setWidth 64))) (.int .u64 (IntKind.u64.wrap Q.toNat)):=fun Q=>mL vc Q .av (fun Q=>b5.av Q);cases Q with
 |int e z=>
  cases z with
  |c n=>
   simp only[w8,aD,aO]at h;obtain⟨rfl,rfl⟩:=h;refine⟨Pure.refl _,fun _=>?_⟩;have:=b5.int k (.c (qA k n));rw[uY]at this;simpa[Z.v,bk.z,uY]using this
  |s n=>exact Xd h
 |bP Q=>exact EO h (EP u9 Q .bP (fun Q=>b5.bP Q)) (a Q) (b Q) (d Q)|cX Q=>exact EO h (cF Q) (EP va Q .cX (fun Q=>b5.cX Q)) (b Q) (d Q)|aF Q=>exact EO h (cF Q) (a Q) (EP vb Q .aF (fun Q=>b5.aF Q)) (d Q)|av Q=>exact EO h (cF Q) (a Q) (b Q) (EP vc Q .av (fun Q=>b5.av Q))
def ER(a:width n)(Q:BitVec n):(eE n).wrap (0-(Q.toNat:Int))=((0#n-Q).toNat:Int):=by
 have d:=Q.isLt;rw[u6 a,kG];have b:(0#n).toNat=0:=by simp
 have c:((2^n-Q.toNat+(0#n).toNat:Nat):Int)=(0-(Q.toNat:Int))+((2^n:Nat):Int):=by rw[b];omega
 rw[NW,c,VU]
def ES(a:width n)(Q:BitVec n):(Op.intBits .xor (eE n) (if(eE n).signed then -1 else(eE n).max) Q.toNat).aI P w=.ok (.int (eE n) ((~~~Q).toNat)) w:=by
 have b:=EM a (~~~Q);rw[←anO]at b;rcases a with rfl|rfl|rfl|rfl<;>
  simp only[Op.intBits,eE,IntKind.bits,IntKind.signed,IntKind.max,uD,VS,VT,Sem.fS,Result.ok.injEq,Value.int.injEq,HQ,uE,←anO,nc,ee]<;>
  exact b
def Xf{T:UnOp}{Q:af}(a:b5 Q V)(h:unop T Q=some r):∃v,(Op.unary T V).aI P w=.ok v w∧b5 r v:=by
 cases a with
 |bool b=>
  cases T<;>simp only[unop,aD,reduceCtorEq]at h;subst h;exact⟨_,rfl,by rw[←B.Iz];exact .bool _⟩
 |num n=>
  cases T<;>simp only[unop,aD,reduceCtorEq]at h
  ·cases n with
   |int k z=>
    cases z<;>simp only[zd,aD,reduceCtorEq]at h;subst h;rename_i n;exact⟨_,rfl,by have:=b5.int k (.c (qA k (0-n)));rw[uY]at this⊢;exact this⟩
   |bP Q=>simp only[zd,aD]at h;subst h;exact⟨_,rfl,by have:=b5.bP (0#8-Q);rw[←ER u9]at this;exact this⟩
   |cX Q=>simp only[zd,aD]at h;subst h;exact⟨_,rfl,by have:=b5.cX (0#16-Q);rw[←ER va]at this;exact this⟩
   |aF Q=>simp only[zd,aD]at h;subst h;exact⟨_,rfl,by have:=b5.aF (0#32-Q);rw[←ER vb]at this;exact this⟩
   |av Q=>simp only[zd,aD]at h;subst h;exact⟨_,rfl,by have:=b5.av (0#64-Q);rw[←ER vc]at this;exact this⟩
  ·cases n with
   |int k z=>
    cases z<;>simp only[ze,aD,reduceCtorEq]at h;subst h;rename_i n;exact⟨_,rfl,b5.int k (.c _)⟩
   |bP Q=>simp only[ze,aD]at h;subst h;exact⟨_,ES w u9 Q,.bP _⟩|cX Q=>simp only[ze,aD]at h;subst h;exact⟨_,ES w va Q,.cX _⟩|aF Q=>simp only[ze,aD]at h;subst h;exact⟨_,ES w vb Q,.aF _⟩|av Q=>simp only[ze,aD]at h;subst h;exact⟨_,ES w vc Q,.av _⟩
end
end
section
open Conc
abbrev Rel:=World→World→Prop
abbrev ve:=World→World→Array Event→Prop
abbrev lp:=Goroutine→World→Prop
inductive Way(P:Program)(main:Bool)(R:Rel)(D:ve)(Stop:lp):Goroutine→World→Prop
 |stop {g:Goroutine} {w:World}:(∀Q,R w Q→Stop g Q)→Way P main R D Stop g w
 |step {g:Goroutine} {w:World}:g.status=.running→
  (∀Q,R w Q→∃g' w' es,stepG P main g Q=.go g' w' es∧D Q w' es)→
  (∀Q g' w' es,R w Q→stepG P main g Q=.go g' w' es→Way P main R D Stop g' w')→Way P main R D Stop g w
variable{P:Program}{main:Bool}{R:Rel}{D:ve}{Stop S:lp}{g:Goroutine}{w Q:World}
def Way.mono(b:∀g w,Stop g w→S g w)(h:Way P main R D Stop g w):Way P main R D S g w:=by
 induction h with
 |stop h=>exact .stop fun Q a=>b _ _ (h Q a)|step c h _ d=>exact .step c h fun Q g' w' e a f=>d Q g' w' e a f
def Way.one(f:g.status=.running)(h:∀Q,R w Q→∃g' w' a,stepG P main g Q=.go g' w' a∧D Q w' a∧Way P main R D Stop g' w'):Way P main R D Stop g w:=
 .step f (fun Q b=>let⟨g',w',a,c,d,_⟩:=h Q b;⟨g',w',a,c,d⟩) fun Q g' w' a b c=>by
  obtain⟨j,k,l,e,_,i⟩:=h Q b;rw[c]at e;cases e;exact i
def Way.trans(d:∀w,R w w)(aH:∀a b c,R a b→R b c→R a c)(h:Way P main R D Stop g w)(k:∀g w,Stop g w→Way P main R D S g w):Way P main R D S g w:=by
 induction h with
 |@stop g w h=>
  have e:=k g w (h w (d w));exact e
 |step f h _ i=>exact .step f h fun Q g' w' j l m=>i Q g' w' j l m
def Way.vf(aH:∀a b c,R a b→R b c→R a c){n:Nat}(h:Goes P main R D Stop n g w):Way P main R D Stop g w:=by
 induction n generalizing g w with
 |zero=>exact .stop h|succ n e=>
  rcases h with h|⟨f,h⟩
  ·exact .stop h
  ·refine .one f fun Q i=>?_;have:=h Q i;cases d:stepG P main g Q with
   |go g' w' j=>rw[d]at this;exact⟨g',w',j,rfl,this.1,e this.2⟩|_=>rw[d]at this;exact this.elim
def Way.OB{j:Rel}{k:ve}(f:∀a b,j a b→R a b)(l:∀a b c,D a b c→k a b c)(h:Way P main R D Stop g w):Way P main j k Stop g w:=by
 induction h with
 |stop h=>exact .stop fun Q e=>h Q (f _ _ e)|step m h _ n=>
  refine .step m (fun Q e=>?_) fun Q g' w' c e i=>n Q g' w' c (f _ _ e) i;obtain⟨g',w',c,i,d⟩:=h Q (f _ _ e);exact⟨g',w',c,i,l _ _ _ d⟩
inductive b6 where
 |leaf|node (f:World→b6)
inductive b6.Below:b6→b6→Prop
 |mk (f:World→b6) (w:World):b6.Below (f w) (.node f)
def b6.wf:WellFounded b6.Below:=⟨fun t=>by
 induction t with
 |leaf=>exact⟨_,fun a h=>by cases h⟩
 |node f b=>exact⟨_,fun a h=>by cases h;exact b _⟩⟩
def eV(P:Program)(main:Bool)(R:Rel)(D:ve)(Stop:lp):b6→Goroutine→World→Prop|.leaf,g,w=>∀Q,R w Q→Stop g Q|.node f,g,w=>g.status=.running∧∀Q,R w Q→∃g' w' a,stepG P main g Q=.go g' w' a∧D Q w' a∧eV P main R D Stop (f Q) g' w'
def eV.rely(aH:∀a b c,R a b→R b c→R a c){t:b6}(h:eV P main R D Stop t g w)(i:R w Q):eV P main R D Stop t g Q:=by
 cases t with
 |leaf=>exact fun d e=>h d (aH _ _ _ i e)|node f=>exact⟨h.1,fun d e=>h.2 d (aH _ _ _ i e)⟩
def eV.status(a:∀w,R w w)(b:∀g w,Stop g w→g.status=.running){t:b6}(h:eV P main R D Stop t g w):g.status=.running:=by
 cases t with
 |leaf=>exact b g w (h w (a w))|node f=>exact h.1
open Classical in
def Way.iI(h:Way P main R D Stop g w):∃t,eV P main R D Stop t g w:=by
 induction h with
 |stop h=>exact⟨.leaf,h⟩|@step g w f h _ i=>
  have c:∀Q,∃t,R w Q→∃g' w' a,stepG P main g Q=.go g' w' a∧D Q w' a∧eV P main R D Stop t g' w':=by
   intro Q;by_cases b:R w Q
   ·obtain⟨g',w',a,e,d⟩:=h Q b;obtain⟨t,j⟩:=i Q g' w' a b e;exact⟨t,fun _=>⟨g',w',a,e,d,j⟩⟩
   ·exact⟨.leaf,fun k=>absurd k b⟩
  exact⟨.node fun Q=>(c Q).choose,f,fun Q b=>(c Q).choose_spec b⟩
def eV.cases(c:∀w,R w w){t:b6}(h:eV P main R D Stop t g w):
 (t=.leaf∧∀Q,R w Q→Stop g Q)∨∃b g' w' a,b6.Below b t∧stepG P main g w=.go g' w' a∧D w w' a∧eV P main R D Stop b g' w':=by
 cases t with
 |leaf=>exact .inl ⟨rfl,h⟩|node f=>
  obtain⟨g',w',a,e,d,k⟩:=h.2 w (c w);exact .inr ⟨f w,g',w',a,.mk f w,e,d,k⟩
inductive gF(P:Program)(main:Bool)(R N:Rel)(D:ve)(Stop:lp):Goroutine→World→Prop
 |stop {g:Goroutine} {w:World}:(∀Q,R w Q→Stop g Q)→gF P main R N D Stop g w
 |step {g:Goroutine} {w:World}:g.status=.running→
  (∀Q,R w Q→∃g' w' es,stepG P main g Q=.go g' w' es∧(N Q w'→D Q w' es))→
  (∀Q g' w' es,R w Q→stepG P main g Q=.go g' w' es→N Q w'→gF P main R N D Stop g' w')→gF P main R N D Stop g w
section
variable{N:Rel}
def Way.toN(h:Way P main R D Stop g w):gF P main R N D Stop g w:=by
 induction h with
 |stop h=>exact .stop h|step e h _ f=>exact .step e (fun Q a=>let⟨g',w',b,c,d⟩:=h Q a;⟨g',w',b,c,fun _=>d⟩) fun Q g' w' b a c _=>f Q g' w' b a c
def gF.one(f:g.status=.running)(h:∀Q,R w Q→∃g' w' a,stepG P main g Q=.go g' w' a∧(N Q w'→D Q w' a∧gF P main R N D Stop g' w')):gF P main R N D Stop g w:=
 .step f (fun Q b=>let⟨g',w',a,c,d⟩:=h Q b;⟨g',w',a,c,fun n=>(d n).1⟩) fun Q g' w' a b c n=>by
  obtain⟨i,j,k,e,d⟩:=h Q b;rw[c]at e;cases e;exact(d n).2
def gF.trans(a:∀w,R w w)(h:gF P main R N D Stop g w)(k:∀g w,Stop g w→gF P main R N D S g w):gF P main R N D S g w:=by
 induction h with
 |@stop g w h=>exact k g w (h w (a w))|step b h _ c=>exact .step b h fun Q g' w' d e f n=>c Q g' w' d e f n
def oQ(P:Program)(main:Bool)(R N:Rel)(D:ve)(Stop:lp):b6→Goroutine→World→Prop|.leaf,g,w=>∀Q,R w Q→Stop g Q|.node f,g,w=>g.status=.running∧∀Q,R w Q→∃g' w' a,stepG P main g Q=.go g' w' a∧(N Q w'→D Q w' a∧oQ P main R N D Stop (f Q) g' w')
def oQ.rely(aH:∀a b c,R a b→R b c→R a c){t:b6}(h:oQ P main R N D Stop t g w)(i:R w Q):oQ P main R N D Stop t g Q:=by
 cases t with
 |leaf=>exact fun d e=>h d (aH _ _ _ i e)|node f=>exact⟨h.1,fun d e=>h.2 d (aH _ _ _ i e)⟩
def oQ.status(a:∀w,R w w)(b:∀g w,Stop g w→g.status=.running){t:b6}(h:oQ P main R N D Stop t g w):g.status=.running:=by
 cases t with
 |leaf=>exact b g w (h w (a w))|node f=>exact h.1
open Classical in
def gF.iI(h:gF P main R N D Stop g w):∃t,oQ P main R N D Stop t g w:=by
 induction h with
 |stop h=>exact⟨.leaf,h⟩|@step g w i h _ j=>
  have f:∀Q,∃t,R w Q→∃g' w' a,stepG P main g Q=.go g' w' a∧(N Q w'→D Q w' a∧oQ P main R N D Stop t g' w'):=by
   intro Q;by_cases b:R w Q
   ·obtain⟨g',w',a,c,d⟩:=h Q b;by_cases n:N Q w'
    ·obtain⟨t,k⟩:=j Q g' w' a b c n;exact⟨t,fun _=>⟨g',w',a,c,fun n=>⟨d n,k⟩⟩⟩
    ·exact⟨.leaf,fun _=>⟨g',w',a,c,fun e=>absurd e n⟩⟩
   ·exact⟨.leaf,fun e=>absurd e b⟩
  exact⟨.node fun Q=>(f Q).choose,i,fun Q b=>(f Q).choose_spec b⟩
def oQ.cases(c:∀w,R w w){t:b6}(h:oQ P main R N D Stop t g w):
 (t=.leaf∧∀Q,R w Q→Stop g Q)∨∃b g' w' a,b6.Below b t∧stepG P main g w=.go g' w' a∧(N w w'→D w w' a∧oQ P main R N D Stop b g' w'):=by
 cases t with
 |leaf=>exact .inl ⟨rfl,h⟩|node f=>
  obtain⟨g',w',a,e,d⟩:=h.2 w (c w);exact .inr ⟨f w,g',w',a,.mk f w,e,d⟩
end
end
section
open Conc
open Go.ConcR (stA smA Bk)
open Go.ConcN (RelBy fork_knows RelBy.appOther RelBy.book)
variable{fn:FuncId}{pos:String}{es:Array Event}{P:Event}{k g R:Nat}{qE:Nat→Nat}{rel':Nat→Prop}{i:Nat}
def pR(Wg:Nat)(l:Loc):Prop:=∃a,l=.cell a∧a.block=Wg
structure tv(Sh:Loc→Prop)(Wg:Nat)(Own:Nat→Loc→Prop)(bL:Loc→Prop)(aZ:Nat):Prop where
 own:∀k oC l,Own k l→Own oC l→k=oC
 B8:∀k l,Own k l→¬bL l
 ownSh:∀k l,Own k l→¬Sh l
 IE:∀k l,Own k l→¬pR Wg l
 OC:∀l,bL l→¬Sh l
 ET:∀l,bL l→¬pR Wg l
 aZ:0<aZ
structure EU(Sh:Loc→Prop)(Wg:Nat)(Own:Nat→Loc→Prop)(bL:Loc→Prop)(aZ j:Nat)(T:Trace):Prop where
 clean:∀said,¬Race said T
 known0:∀i a,touchAt T i=some a→a.loc.isMemory=true→Knows T 0 i∨(Sh a.loc∧a.kind=.atomic)∨(pR Wg a.loc∧a.kind=.atomic)∨
  ∃k,k<j∧T.g? i=some (aZ+k)∧a.kind=.plain∧(Own k a.loc∨(bL a.loc∧a.write=false))
 EV:∀k,k<j→∀i a,touchAt T i=some a→a.loc.isMemory=true→Own k a.loc∨(bL a.loc∧a.write=true)→Knows T (aZ+k) i
 zG:∀i a,touchAt T i=some a→pR Wg a.loc→a.kind≠.plain∧(a.kind=.said→T.g? i=some 0)
 over:∀i g,T.g? i=some g→g≠0→(∀k,k<j→g≠aZ+k)→T.counts i→∃h,T.g? h=some 0∧HappensBefore T i h
section
variable{Sh:Loc→Prop}{Wg:Nat}{Own:Nat→Loc→Prop}{bL:Loc→Prop}{aZ j B d0:Nat}{T u:Trace}{g9:Nat→Nat}{rel:Nat→Prop}
def B9{a:Touch}(h:touchAt (T++u) i=some a):(touchAt T i=some a∧i<T.size)∨(T.size≤i∧∃b,(T++u)[i]? =some b∧b∈u∧b.act.touch?=some a):=by
 obtain⟨f,d,e⟩:=touch_of h;rcases getElem?_append_cases d with⟨c,l⟩|⟨c,m⟩
 ·exact .inl ⟨by rw[touchAt_of l];exact e,c⟩
 ·exact .inr ⟨c,f,d,m,e⟩
def IF{a:MemOp}(h:(T++u)[i]? =some a):(T++u).g? i=some a.g:=by simp[Trace.g?,h]
def Xg(Wg:Nat)(Own:Nat→Loc→Prop)(bL:Loc→Prop)(aZ j g:Nat)(a:Touch):Prop:=
 (pR Wg a.loc∧a.kind≠.plain∧(a.kind=.said→g=0))∨(a.kind=.plain∧((∃k,k<j∧g=aZ+k∧Own k a.loc)∨(bL a.loc∧a.write=false)))
def EU.app(l:tv Sh Wg Own bL aZ)(h:EU Sh Wg Own bL aZ j T)(p:g=0∨(∃k,k<j∧g=aZ+k)∨∀d∈u,d.act.touch?=none)(t:∀d∈u,d.g=g)(C:∀d∈u,∀e,d.act.touch?=some e→Xg Wg Own bL aZ j g e):
 EU Sh Wg Own bL aZ j (T++u):=by
 have q:=l.aZ;refine⟨fun U=>noRace_append (h.clean U) t fun i a m d aQ b v q=>?_,fun i a m H=>?_,fun k n i a m H c=>?_,fun i a m o=>?_,fun i e I L h1 M=>?_⟩
 ·rcases C d aQ b v with⟨o,n,w⟩|⟨n,⟨k,r,rfl,c⟩|⟨x,D⟩⟩
  ·have:=h.zG i a m (q.1▸o);rcases q.2.2.2 with e|e|⟨_,e,N⟩
   ·exact absurd e this.1
   ·exact absurd e n
   ·obtain⟨z,V,W⟩:=bT.1 (this.2 e);have y:=knows_own V;rw[W]at y;rw[w N];exact y
  ·exact h.EV k r i a m q.2.1 (.inl (q.1▸c))
  ·have E:bL a.loc:=q.1▸x;have O:a.write=true:=q.2.2.1.resolve_right (by simp[D]);rcases p with rfl|⟨k,r,rfl⟩|p
   ·rcases h.known0 i a m q.2.1 with e|⟨e,_⟩|⟨e,_⟩|⟨k,_,_,_,e|⟨_,e⟩⟩
    ·exact e
    ·exact absurd e (l.OC _ E)
    ·exact absurd e (l.ET _ E)
    ·exact absurd E (l.B8 _ _ e)
    ·rw[O]at e;cases e
   ·exact h.EV k r i a m q.2.1 (.inr ⟨E,O⟩)
   ·rw[p d aQ]at v;cases v
 ·rcases B9 m with⟨A,J⟩|⟨_,d,aQ,f,s⟩
  ·rw[g?_old J];exact(h.known0 i a A H).imp (·.app _) id
  ·rcases p with rfl|⟨k,r,X⟩|p
   ·have:=knows_own aQ;rw[t d f]at this;exact .inl this
   ·rcases C d f a s with⟨o,n,w⟩|⟨n,c⟩
    ·refine .inr (.inr (.inl ⟨o,?_⟩));cases P:a.kind with
     |plain=>exact absurd P n|atomic=>rfl|said=>have:=w P;omega
    ·refine .inr (.inr (.inr ⟨k,r,by rw[IF aQ,t d f,X],n,?_⟩));rcases c with⟨K,_,P,c⟩|c
     ·obtain rfl:K=k:=by omega
      exact .inl c
     ·exact .inr c
   ·rw[p d f]at s;cases s
 ·rcases B9 m with⟨A,_⟩|⟨_,d,aQ,f,s⟩
  ·exact(h.EV k n i a A H c).app _
  ·have y:=knows_own aQ;rw[t d f]at y;rcases C d f a s with⟨o,_⟩|⟨_,⟨K,_,rfl,F⟩|⟨x,D⟩⟩
   ·rcases c with c|⟨c,_⟩
    ·exact absurd o (l.IE _ _ c)
    ·exact absurd o (l.ET _ c)
   ·rcases c with c|⟨c,_⟩
    ·obtain rfl:=l.own _ _ _ c F;exact y
    ·exact absurd c (l.B8 _ _ F)
   ·rcases c with c|⟨_,c⟩
    ·exact absurd x (l.B8 _ _ c)
    ·rw[D]at c;cases c
 ·rcases B9 m with⟨A,J⟩|⟨_,d,aQ,f,s⟩
  ·rw[g?_old J];exact h.zG i a A o
  ·rcases C d f a s with⟨_,n,w⟩|⟨_,⟨K,_,rfl,F⟩|⟨x,D⟩⟩
   ·exact⟨n,fun P=>by rw[IF aQ,t d f,w P]⟩
   ·exact absurd o (l.IE _ _ F)
   ·exact absurd o (l.ET _ x)
 ·obtain⟨N,Y,_⟩:=id M;obtain⟨d,aQ,Q⟩:=touch_of Y;rcases getElem?_append_cases aQ with⟨hi,_⟩|⟨_,f⟩
  ·obtain⟨Z,S,v⟩:=h.over i e (by rw[←g?_old (u:=u) hi];exact I) L h1 ((counts_old hi).1 M);exact⟨Z,by rw[g?_old (lt_of_g? S)];exact S,hb_app u v⟩
  ·have P:d.g=e:=by rw[IF aQ]at I;exact dV I
   rw[t d f]at P;rcases p with rfl|⟨k,r,rfl⟩|p
   ·exact absurd P.symm L
   ·exact absurd P.symm (h1 k r)
   ·rw[p d f]at Q;cases Q
structure fG(Sh:Loc→Prop)(Wg:Nat)(Own:Nat→Loc→Prop)(bL:Loc→Prop)(aZ j B d0:Nat)(g9:Nat→Nat)(rel:Nat→Prop)(T:Trace):Prop where
 bG:EU Sh Wg Own bL aZ j T
 deaf0:Deaf T 0=d0
 deafW:∀k,k<j→Deaf T (aZ+k)=g9 k
 norel:NoRelease (stA Wg) T
 seen:∀op∈T,op.act.low B
 rel:∀k,k<j→rel k→∃r,RelBy (stA Wg) T (aZ+k) r
def Xh(h:P.mute=true)(a:Addr):MemAct.ofEvent P≠.mark (.release a):=by
 obtain⟨b,wr,c⟩:=P;cases b with
 |mark m=>cases m<;>simp_all[Event.mute,MemAct.ofEvent]
 |_=>simp_all[Event.mute]
def IG(h:Bk Wg P){c:Touch}(b:(MemAct.ofEvent P).touch?=some c):pR Wg c.loc∧c.kind=.atomic:=by
 rcases h with h1|h1|⟨a,wr,rfl,d⟩
 ·rw[Ea h1]at b;cases b
 ·rw[Ea h1]at b;cases b
 ·rw[V0]at b;simp only[MemAct.touch?,aD]at b;subst b;exact⟨⟨a,rfl,d⟩,by simp⟩
def OD(h:Bk Wg P)(a:Addr):MemAct.ofEvent P≠.mark (.release a):=by
 rcases h with h1|h1|⟨b,wr,rfl,_⟩
 ·rw[Ea h1];simp
 ·rw[Ea h1];simp
 ·rw[V0];simp
def OE(h:Bk Wg P)(cR:Wg<B):(MemAct.ofEvent P).low B:=by
 rcases h with h1|h1|⟨b,wr,rfl,a⟩
 ·rw[Ea h1];trivial
 ·rw[Ea h1];trivial
 ·rw[V0];show b.block<B;omega
def Ev0(Wg:Nat)(bL:Loc→Prop)(B:Nat)(P:Event):Prop:=
 (∀a,(MemAct.ofEvent P).touch?=some a→(pR Wg a.loc∧a.kind≠.plain)∨(bL a.loc∧a.kind=.plain∧a.write=false))∧MemAct.ofEvent P≠.mark (.release (stA Wg))∧(MemAct.ofEvent P).low B
def II(Wg:Nat)(Own:Nat→Loc→Prop)(bL:Loc→Prop)(k B:Nat)(P:Event):Prop:=
 (∀a,(MemAct.ofEvent P).touch?=some a→(a.kind=.plain∧(Own k a.loc∨(bL a.loc∧a.write=false)))∨(a.kind=.atomic∧pR Wg a.loc))∧MemAct.ofEvent P≠.mark (.release (stA Wg))∧(MemAct.ofEvent P).low B
def EW{Q:Event→Prop}(h:∀P∈es,Q P):∀a∈MemOp.ofEvents g fn pos es,a.g=g∧∃P,Q P∧a.act=.ofEvent P:=fun a aQ=>by
 obtain⟨P,b,rfl⟩:=Eb aQ;exact⟨rfl,P,h P b,rfl⟩
def seen_app(h:∀a∈T,a.act.low B)(cR:B≤R)(b:∀a∈u,a.act.low R):∀a∈T++u,a.act.low R:=fun a aQ=>
 (yX.1 aQ).elim (fun c=>MemAct.low_mono cR (h a c)) (b a)
def fG.main(f:tv Sh Wg Own bL aZ)(h:fG Sh Wg Own bL aZ j B d0 g9 rel T)(cR:B≤R)(m:∀P∈es,Ev0 Wg bL R P):
 fG Sh Wg Own bL aZ j R (deafBehind d0 es) g9 rel (T++MemOp.ofEvents 0 fn pos es):=by
 have b:=EW (g:=0) (fn:=fn) (pos:=pos) m;have l:∀k,0≠aZ+k:=fun k=>by have:=f.aZ;omega
 refine⟨h.bG.app f (.inl rfl) (fun a aQ=>(b a aQ).1) fun a aQ n o=>?_,by rw[Deaf_own,h.deaf0],fun k e=>by rw[Deaf_other T (g':=0) (l k) _ (fun a aQ=>(b a aQ).1),h.deafW k e],
  h.norel.app fun a aQ=>by obtain⟨_,P,c,d⟩:=b a aQ;rw[d];exact c.2.1,seen_app h.seen cR fun a aQ=>by obtain⟨_,P,c,d⟩:=b a aQ;rw[d];exact c.2.2,
  fun k e P=>let⟨r,p⟩:=h.rel k e P;⟨r,p.appOther (fun a aQ=>(b a aQ).1) (l k)⟩⟩
 obtain⟨_,P,c,d⟩:=b a aQ;rcases c.1 n (d▸o)with⟨h1,h2⟩|⟨h1,h2,h3⟩
 ·exact .inl ⟨h1,h2,fun _=>rfl⟩
 ·exact .inr ⟨h2,.inr ⟨h1,h3⟩⟩
def fG.others(h:fG Sh Wg Own bL aZ j B d0 g9 rel T):∀a,a<j→a≠k→Deaf (T++MemOp.ofEvents (aZ+k) fn pos es) (aZ+a)=g9 a∧(rel a→∃r,RelBy (stA Wg) (T++MemOp.ofEvents (aZ+k) fn pos es) (aZ+a) r):=by
 intro a b f;have c:∀d∈MemOp.ofEvents (aZ+k) fn pos es,d.g=aZ+k:=fun d aQ=>by obtain⟨P,_,rfl⟩:=Eb aQ;rfl
 exact⟨by rw[Deaf_other T (g':=aZ+k) (by omega) _ c,h.deafW a b],fun P=>let⟨r,e⟩:=h.rel a b P;⟨r,e.appOther c (by omega)⟩⟩
def fG.IJ(m:tv Sh Wg Own bL aZ)(h:fG Sh Wg Own bL aZ j B d0 g9 rel T)(f:k<j)(p:¬rel k)(cR:B≤R)(q:∀P∈es,II Wg Own bL k R P)(r:qE k=deafBehind (g9 k) es)(s:∀i,i≠k→qE i=g9 i):
 fG Sh Wg Own bL aZ j R d0 qE rel (T++MemOp.ofEvents (aZ+k) fn pos es):=by
 have c:=EW (g:=aZ+k) (fn:=fn) (pos:=pos) q;have n:=h.others (k:=k) (fn:=fn) (pos:=pos) (es:=es);have w:=m.aZ;refine⟨h.bG.app m (.inr (.inl ⟨k,f,rfl⟩)) (fun a aQ=>(c a aQ).1) fun a aQ t v=>?_,by rw[Deaf_other T (g':=aZ+k) (by omega) _ (fun a aQ=>(c a aQ).1),h.deaf0],fun b l=>?_,
  h.norel.app fun a aQ=>by obtain⟨_,P,d,e⟩:=c a aQ;rw[e];exact d.2.1,seen_app h.seen cR fun a aQ=>by obtain⟨_,P,d,e⟩:=c a aQ;rw[e];exact d.2.2,fun b l P=>?_⟩
 ·obtain⟨_,P,d,e⟩:=c a aQ;rcases d.1 t (e▸v)with⟨h1,h2|h2⟩|⟨h1,h2⟩
  ·exact .inr ⟨h1,.inl ⟨k,f,rfl,h2⟩⟩
  ·exact .inr ⟨h1,.inr h2⟩
  ·exact .inl ⟨h2,by rw[h1];simp,fun P=>by rw[h1]at P;cases P⟩
 ·by_cases P:b=k
  ·subst P;rw[Deaf_own,h.deafW _ f,r]
  ·rw[s b P];exact(n b l P).1
 ·by_cases o:b=k
  ·subst o;exact absurd P p
  ·exact(n b l o).2 P
def fG.book(m:tv Sh Wg Own bL aZ)(h:fG Sh Wg Own bL aZ j B d0 g9 rel T)(f:k<j)(q:Wg<B)(n:∀P∈es,Bk Wg P)
 (s:∀i P,es[i]? =some P→(MemAct.ofEvent P).touch?=none∨0<deafBehind (g9 k) (es.extract 0 i)) (t:qE k=deafBehind (g9 k) es) (v:∀i,i≠k→qE i=g9 i):
 fG Sh Wg Own bL aZ j B d0 qE rel (T++MemOp.ofEvents (aZ+k) fn pos es):=by
 have c:=EW (g:=aZ+k) (fn:=fn) (pos:=pos) n;have o:=h.others (k:=k) (fn:=fn) (pos:=pos) (es:=es);have y:=m.aZ;refine⟨h.bG.app m (.inr (.inl ⟨k,f,rfl⟩)) (fun a aQ=>(c a aQ).1) fun a aQ z w=>?_,by rw[Deaf_other T (g':=aZ+k) (by omega) _ (fun a aQ=>(c a aQ).1),h.deaf0],fun b l=>?_,
  h.norel.app fun a aQ=>by obtain⟨_,P,d,e⟩:=c a aQ;rw[e];exact OD d _,seen_app h.seen (aV _) fun a aQ=>by obtain⟨_,P,d,e⟩:=c a aQ;rw[e];exact OE d q,fun b l P=>?_⟩
 ·obtain⟨_,P,d,e⟩:=c a aQ;obtain⟨h1,h2⟩:=IG d (e▸w);exact .inl ⟨h1,by rw[h2];simp,fun P=>by rw[h2]at P;cases P⟩
 ·by_cases P:b=k
  ·subst P;rw[Deaf_own,h.deafW _ f,t]
  ·rw[v b P];exact(o b l P).1
 ·by_cases p:b=k
  ·subst p;obtain⟨r,x⟩:=h.rel _ f P;exact⟨r,x.book (h.deafW _ f) fn pos n s⟩
  ·exact(o b l p).2 P
def fG.release(f:tv Sh Wg Own bL aZ)(h:fG Sh Wg Own bL aZ j B d0 g9 rel T)(l:k<j)(q:g9 k=0)(r:Wg<B)(s:∀i,i≠k→rel' i→rel i):
 fG Sh Wg Own bL aZ j B d0 g9 rel' (T++MemOp.ofEvents (aZ+k) fn pos #[Go.ConcR.mk (.releaseMerge (stA Wg))]):=by
 have c:∀a∈MemOp.ofEvents (aZ+k) fn pos #[Go.ConcR.mk (.releaseMerge (stA Wg))],a.g=aZ+k∧a.act=.mark (.releaseMerge (stA Wg)):=by
  intro a aQ;obtain⟨P,m,rfl⟩:=Eb aQ;simp at m;subst m;exact⟨rfl,rfl⟩
 have n:=h.others (k:=k) (fn:=fn) (pos:=pos) (es:=#[Go.ConcR.mk (.releaseMerge (stA Wg))]);have t:=f.aZ;have o:=h.deafW k l;refine⟨h.bG.app f (.inr (.inl ⟨k,l,rfl⟩)) (fun a aQ=>(c a aQ).1) fun a aQ v p=>(by rw[(c a aQ).2]at p;cases p),by rw[Deaf_other T (g':=aZ+k) (by omega) _ (fun a aQ=>(c a aQ).1),h.deaf0],fun b d=>?_,
  h.norel.app fun a aQ=>by rw[(c a aQ).2];simp,seen_app h.seen (aV _) fun a aQ=>by rw[(c a aQ).2];exact r,fun b d P=>?_⟩
 ·by_cases P:b=k
  ·subst P;rw[Deaf_own,o];rfl
  ·exact(n b d P).1
 ·by_cases e:b=k
  ·subst e;exact⟨_,RelBy.new (o.trans q) fn pos⟩
  ·exact(n b d e).2 (s b e P)
def fG.mute(m:tv Sh Wg Own bL aZ)(h:fG Sh Wg Own bL aZ j B d0 g9 rel T)(n:g≠0)(h1:∀k,k<j→g≠aZ+k)(o:∀P∈es,P.mute=true):fG Sh Wg Own bL aZ j B d0 g9 rel (T++MemOp.ofEvents g fn pos es):=by
 have b:=EW (g:=g) (fn:=fn) (pos:=pos) o;have f:∀a∈MemOp.ofEvents g fn pos es,a.act.touch?=none:=fun a aQ=>by obtain⟨_,P,c,d⟩:=b a aQ;rw[d];exact touch_mute c
 exact⟨h.bG.app m (.inr (.inr f)) (fun a aQ=>(b a aQ).1) fun a aQ q l=>(by rw[f a aQ]at l;cases l),(Deaf_other T n _ fun a aQ=>(b a aQ).1).trans h.deaf0,fun k e=>(Deaf_other T (h1 k e) _ fun a aQ=>(b a aQ).1).trans (h.deafW k e),
  h.norel.app fun a aQ=>by obtain⟨_,P,c,d⟩:=b a aQ;rw[d];exact Xh c _,seen_app h.seen (aV _) fun a aQ=>by obtain⟨_,P,c,d⟩:=b a aQ;rw[d];exact low_mute c B,
  fun k e P=>let⟨r,p⟩:=h.rel k e P;⟨r,p.appOther (fun a aQ=>(b a aQ).1) (h1 k e)⟩⟩
def fG.OF(h:fG Sh Wg Own bL aZ j B d0 g9 rel T)(P:∀k,k<j→rel' k→rel k):fG Sh Wg Own bL aZ j B d0 g9 rel' T:=⟨h.bG,h.deaf0,h.deafW,h.norel,h.seen,fun k a b=>h.rel k a (P k a b)⟩
def fG.IK(h:Past Sh B T)(v:B≤Wg):fG Sh Wg Own bL aZ 0 B 0 g9 rel T:=by
 have low:∀i a,touchAt T i=some a→∀ad,a.loc=.cell ad→ad.block<B:=fun i a c ad P=>by
  obtain⟨f,l,b⟩:=touch_of c;have:=h.seen f (mem_of_getElem? l);cases e:f.act with
  |access ev=>
   rw[e]at b this;simp only[MemAct.touch?,aD]at b;subst b;simp only at P;simp only[MemAct.low]at this;rw[P]at this;exact this
  |mark m=>rw[e]at b this;cases m<;>simp only[MemAct.touch?,aD,reduceCtorEq]at b<;>subst b<;>cases P<;>exact this
  |_=>rw[e]at b;cases b
 refine⟨⟨h.clean,fun i a c n=>(h.known i a c n).imp id .inl,fun k d=>absurd d (oz _),fun i a c ⟨ad,P,w⟩=>absurd (low i a c ad P) (by omega),fun i g o p _ q=>h.over i g o p q⟩,h.hears,fun k d=>absurd d (oz _),fun i hi=>?_,h.seen,fun k d=>absurd d (oz _)⟩;obtain⟨r,s,t⟩:=bT.1 hi;have:=h.seen r (mem_of_getElem? s);rw[t]at this;simp only[MemAct.low,stA]at this;omega
def fG.fork(e:tv Sh Wg Own bL aZ)(h:fG Sh Wg Own bL aZ j B 0 g9 rel T)(A:Deaf T (aZ+j)=0){f l:MemOp}(o:f.g=0∧f.act=.go (aZ+j))(m:l.g=aZ+j∧l.act=.start)(F:qE j=0)(H:∀i,i≠j→qE i=g9 i)(I:¬rel' j)(J:∀i,i≠j→rel' i→rel i):
 fG Sh Wg Own bL aZ (j+1) B 0 qE rel' (T++#[f,l]):=by
 have V:=e.aZ;have x:∀c∈#[f,l],c.act.touch?=none∧(∀B,c.act.low B)∧∀a,c.act≠.mark (.release a):=by
  intro c aQ;simp only[List.mem_toArray,jJ,HS,HT]at aQ;rcases aQ with rfl|rfl
  ·rw[o.2];exact⟨rfl,fun _=>trivial,fun _=>by simp⟩
  ·rw[m.2];exact⟨rfl,fun _=>trivial,fun _=>by simp⟩
 have old:∀{i:Nat} {a:Touch},touchAt (T++#[f,l]) i=some a→touchAt T i=some a∧i<T.size:=by
  intro i a p;rcases B9 p with z|⟨_,c,_,K,C⟩
  ·exact z
  ·rw[(x c K).1]at C;cases C
 have P:T++#[f,l]=(T++#[f])++#[l]:=by apply j3;simp
 have s:=(h.bG.app e (u:=#[f]) (g:=0) (.inl rfl) (fun c aQ=>by simp at aQ;rw[aQ];exact o.1) fun c aQ b v=>(by simp at aQ;subst aQ;rw[o.2]at v;cases v)).app e (u:=#[l]) (g:=aZ+j) (.inr (.inr fun c aQ=>by simp at aQ;rw[aQ,m.2];rfl)) (fun c aQ=>by simp at aQ;rw[aQ];exact m.1) fun c aQ b v=>(by simp at aQ;subst aQ;rw[m.2]at v;cases v);rw[←P]at s;have D:∀g,Deaf (T++#[f,l]) g=Deaf T g:=fun g=>by rw[P,Deaf_push,Deaf_push];simp[deafStep,o.2,m.2]
 refine⟨⟨s.clean,fun i a p w=>?_,fun k y i a p w d=>?_,s.zG,fun i g L M h1 N=>s.over i g L M (fun k y=>h1 k (by omega)) N⟩,by rw[D];exact h.deaf0,fun k y=>?_,h.norel.app fun c aQ=>(x c aQ).2.2 _,
  fun c aQ=>(yX.1 aQ).elim (h.seen c) fun z=>(x c z).2.1 _,fun k y E=>?_⟩
 ·rcases s.known0 i a p w with z|z|z|⟨k,z,t⟩
  ·exact .inl z
  ·exact .inr (.inl z)
  ·exact .inr (.inr (.inl z))
  ·exact .inr (.inr (.inr ⟨k,by omega,t⟩))
 ·by_cases n:k=j
  ·subst n;obtain⟨O,W⟩:=old p;have Q:Knows T 0 i:=by
    rcases h.bG.known0 i a O w with z|⟨z,_⟩|⟨z,_⟩|⟨X,z,_,_,t|⟨t,S⟩⟩
    ·exact z
    ·exact absurd z (d.elim (e.ownSh _ _) fun q=>e.OC _ q.1)
    ·exact absurd z (d.elim (e.IE _ _) fun q=>e.ET _ q.1)
    ·rcases d with d|⟨d,_⟩
     ·have:=e.own _ _ _ t d;omega
     ·exact absurd d (e.B8 _ _ t)
    ·rcases d with d|⟨_,d⟩
     ·exact absurd t (e.B8 _ _ d)
     ·rw[S]at d;cases d
   exact fork_knows o m h.deaf0 A Q
  ·exact s.EV k (by omega) i a p w d
 ·rw[D];by_cases n:k=j
  ·subst n;rw[F];exact A
  ·rw[H k n];exact h.deafW k (by omega)
 ·by_cases n:k=j
  ·subst n;exact absurd E I
  ·obtain⟨r,U⟩:=h.rel k (by omega) (J k n E);rw[P];refine⟨r,(U.appOther (g:=0) (fun c aQ=>by simp at aQ;rw[aQ];exact o.1) (by omega)).appOther (g:=aZ+j) (fun c aQ=>by simp at aQ;rw[aQ];exact m.1) (by omega)⟩
def fG.acquire(J:tv Sh Wg Own bL aZ)(h:fG Sh Wg Own bL aZ j B 0 g9 rel T)(K:Wg<B)(L:∀k,k<j→rel k):
 Past (fun l=>Sh l∨pR Wg l) B (T++MemOp.ofEvents 0 fn pos #[Go.ConcR.mk (.acquire (stA Wg))]):=by
 have M:MemOp.ofEvents 0 fn pos #[Go.ConcR.mk (.acquire (stA Wg))]=#[{g:=0,fn,pos,act:=.mark (.acquire (stA Wg))}]:=by rw[ofEvents_eq];simp[anP]
 rw[M];generalize s:(#[({g:=0,fn,pos,act:=.mark (.acquire (stA Wg))}:MemOp)]:Trace)=u;have o:(T++u)[T.size]? =some {g:=0,fn,pos,act:=.mark (.acquire (stA Wg))}:=by subst s;simp
 have p:∀c∈u,c.g=0∧c.act=.mark (.acquire (stA Wg)):=by subst s;intro c aQ;simp at aQ;subst aQ;exact⟨rfl,rfl⟩
 have t:∀c∈u,c.act.touch?=none:=fun c aQ=>by rw[(p c aQ).2];rfl
 have N:(T++u).deaf 0 T.size=0:=by rw[deaf_old (aV _)];exact h.deaf0
 have known:∀k,k<j→∀i,T.g? i=some (aZ+k)→T.counts i→HappensBefore (T++u) i T.size:=fun k d i f m=>by
  obtain⟨r,v⟩:=h.rel k d (L k d);have w:=v.appOther (u:=u) (g:=0) (fun c aQ=>(p c aQ).1) (by have:=J.aZ;omega);have O:r<T.size:=lt_of_act? v.act;have z:HappensBefore (T++u) r T.size:=.single (.inr ⟨.marked O (.inr w.act) (by rw[act?_of o]) (fun k _ d=>by rw[act?_old d];exact h.norel k),w.heard,⟨0,by simp[Trace.g?,o],N⟩⟩);have X:i≤r:=NZ fun x=>v.after i x f m;rcases cu i r with x|Y
  ·exact .trans (.single (.inl ⟨x,aZ+k,by rw[g?_old (lt_of_g? f)];exact f,w.g⟩)) z
  ·obtain rfl:i=r:=by omega
   exact z
 refine⟨fun Q=>noRace_append (h.bG.clean Q) (fun c aQ=>(p c aQ).1) fun i a _ c aQ b q _=>(by rw[t c aQ]at q;cases q),fun i a S A=>?_,fun i g f U m=>?_,?_,fun c aQ=>(yX.1 aQ).elim (h.seen c) fun e=>by rw[(p c e).2];exact K⟩
 ·rcases B9 S with⟨C,Z⟩|⟨_,c,_,y,D⟩
  ·rcases h.bG.known0 i a C A with e|⟨e,n⟩|⟨e,n⟩|⟨k,d,e,n,_⟩
   ·exact .inl (e.app _)
   ·exact .inr ⟨.inl e,n⟩
   ·exact .inr ⟨.inr e,n⟩
   ·exact .inl ⟨T.size,_,o,rfl,.inr (known k d i e ⟨a,C,A,.inl (by rw[n];simp)⟩)⟩
  ·rw[t c y]at D;cases D
 ·obtain⟨e,V,_⟩:=id m;obtain⟨c,aQ,E⟩:=touch_of V;rcases getElem?_append_cases aQ with⟨hi,_⟩|⟨_,y⟩
  ·have F:T.g? i=some g:=by rw[←g?_old (u:=u) hi];exact f
   by_cases H:∃k,k<j∧g=aZ+k
   ·obtain⟨k,d,rfl⟩:=H;exact⟨T.size,by simp[Trace.g?,o],known k d i F ((counts_old hi).1 m)⟩
   ·obtain⟨W,I,q⟩:=h.bG.over i g F U (fun k d P=>H ⟨k,d,P⟩) ((counts_old hi).1 m);exact⟨W,by rw[g?_old (lt_of_g? I)];exact I,hb_app u q⟩
  ·rw[t c y]at E;cases E
 ·rw[←s,Deaf_push,h.deaf0];rfl
end
end
section
open Conc
open Go.ConcX (stA smA OfWg)
open Go.ConcN (RelBy fork_knows)
variable{i:Nat}{fn:FuncId}{Q:String}{P:Array Event}
structure LT(Sh:Loc→Prop)(Wg B d:Nat)(T:Trace):Prop where
 clean:∀said,¬Race said T
 known:∀i a,touchAt T i=some a→a.loc.isMemory=true→Knows T 0 i∨(Sh a.loc∧a.kind=.atomic)
 over:T.HandedOver
 deaf:Deaf T 0=d
 seen:∀op∈T,op.act.low B
 zG:∀i a,touchAt T i=some a→OfWg Wg a.loc→a.kind≠.plain∧(a.kind=.said→T.g? i=some 0)
 norel:NoRelease (stA Wg) T
def zH(Sh:Loc→Prop)(Wg B:Nat)(b:Event):Prop:=
 (∀a,(MemAct.ofEvent b).touch?=some a→(Sh a.loc→a.kind≠.plain)∧(OfWg Wg a.loc→a.kind≠.plain))∧MemAct.ofEvent b≠.mark (.release (stA Wg))∧(MemAct.ofEvent b).low B
section
variable{Sh:Loc→Prop}{Wg B d:Nat}{T u:Trace}{R:Nat→Prop}{c S U:Nat}{V:Prop}
def EX{a:Touch}(h:touchAt (T++u) i=some a):(touchAt T i=some a∧i<T.size)∨(T.size≤i∧∃b,(T++u)[i]? =some b∧b∈u∧b.act.touch?=some a):=by
 obtain⟨j,f,g⟩:=touch_of h;rcases getElem?_append_cases f with⟨e,k⟩|⟨e,l⟩
 ·exact .inl ⟨by rw[touchAt_of k];exact g,e⟩
 ·exact .inr ⟨e,j,f,l,g⟩
def Xi{a:MemOp}(h:(T++u)[i]? =some a):(T++u).g? i=some a.g:=by simp[Trace.g?,h]
def OG(h:i<T.size):(T++u).g? i=T.g? i:=g?_old h
def Xj{b:Event}(h:b.mute=true)(a:Addr):MemAct.ofEvent b≠.mark (.release a):=by
 obtain⟨e,wr,f⟩:=b;cases e with
 |mark m=>cases m<;>simp_all[Event.mute,MemAct.ofEvent]
 |_=>simp_all[Event.mute]
def LT.own(h:LT Sh Wg B d T){o:Nat}(cR:B≤o)(n:∀f∈P,zH Sh Wg o f):LT Sh Wg o (deafBehind d P) (T++MemOp.ofEvents 0 fn Q P):=by
 have m:∀e∈MemOp.ofEvents 0 fn Q P,e.g=0∧∃f∈P,e.act=.ofEvent f:=fun e aQ=>by obtain⟨f,k,rfl⟩:=Eb aQ;exact⟨rfl,f,k,rfl⟩
 refine⟨fun w=>noRace_append (h.clean w) (fun e aQ=>(m e aQ).1) fun i a l e aQ b x p=>?_,fun i a l y=>?_,handedOver_app h.over fun e aQ=>.inl (m e aQ).1,by rw[Deaf_own,h.deaf],
  fun e aQ=>(yX.1 aQ).elim (fun j=>MemAct.low_mono cR (h.seen e j)) fun j=>by obtain⟨_,f,k,l⟩:=m e j;rw[l];exact(n f k).2.2,fun i a l t=>?_,
  h.norel.app fun e aQ=>by obtain⟨_,f,k,l⟩:=m e aQ;rw[l];exact(n f k).2.1⟩
 ·rcases h.known i a l p.2.1 with z|⟨A,v⟩
  ·exact z
  ·obtain⟨_,f,k,q⟩:=m e aQ;have C:=((n f k).1 b (q▸x)).1 (p.1▸A);rcases p.2.2.2 with j|j|⟨_,j,_⟩
   ·rw[v]at j;cases j
   ·exact absurd j C
   ·rw[v]at j;cases j
 ·rcases EX l with⟨r,_⟩|⟨_,e,aQ,s,_⟩
  ·exact(h.known i a r y).imp (·.app _) id
  ·have:=knows_own aQ;rw[(m e s).1]at this;exact .inl this
 ·rcases EX l with⟨r,D⟩|⟨_,e,aQ,s,E⟩
  ·rw[OG D];exact h.zG i a r t
  ·obtain⟨F,f,k,q⟩:=m e s;refine⟨((n f k).1 a (q▸E)).2 t,fun _=>?_⟩;rw[Xi aQ,F]
def LT.mute(h:LT Sh Wg B d T){g:Nat}(r:g≠0)(l:∀j∈P,j.mute=true):LT Sh Wg B d (T++MemOp.ofEvents g fn Q P):=by
 have f:∀e∈MemOp.ofEvents g fn Q P,e.g=g∧e.act.touch?=none∧e.act.low B∧e.act≠.mark (.release (stA Wg)):=fun e aQ=>by
  obtain⟨j,m,rfl⟩:=Eb aQ;exact⟨rfl,touch_mute (l j m),low_mute (l j m) B,Xj (l j m) _⟩
 refine⟨fun s=>noRace_append (h.clean s) (fun e aQ=>(f e aQ).1) fun i a _ e aQ b q _=>(by rw[(f e aQ).2.1]at q;cases q),fun i a n t=>?_,handedOver_app h.over fun e aQ=>.inr (f e aQ).2.1,
  (Deaf_other T r _ fun e aQ=>(f e aQ).1).trans h.deaf,fun e aQ=>(yX.1 aQ).elim (h.seen e) fun v=>(f e v).2.2.1,fun i a n w=>?_,h.norel.app fun e aQ=>(f e aQ).2.2.2⟩
 ·rcases EX n with⟨o,_⟩|⟨_,e,_,p,k⟩
  ·exact(h.known i a o t).imp (·.app _) id
  ·rw[(f e p).2.1]at k;cases k
 ·rcases EX n with⟨o,x⟩|⟨_,e,_,p,k⟩
  ·rw[OG x];exact h.zG i a o w
  ·rw[(f e p).2.1]at k;cases k
def LT.IK(h:Past Sh B T)(p:B≤Wg):LT Sh Wg B 0 T:=by
 have low:∀i a,touchAt T i=some a→∀ad,a.loc=.cell ad→ad.block<B:=fun i a f ad e=>by
  obtain⟨j,k,b⟩:=touch_of f;have:=h.seen j (mem_of_getElem? k);cases g:j.act with
  |access ev=>
   rw[g]at b this;simp only[MemAct.touch?,aD]at b;subst b;simp only at e;simp only[MemAct.low]at this;rw[e]at this;exact this
  |mark m=>rw[g]at b this;cases m<;>simp only[MemAct.touch?,aD,reduceCtorEq]at b<;>subst b<;>cases e<;>exact this
  |_=>rw[g]at b;cases b
 refine⟨h.clean,h.known,h.over,h.hears,h.seen,fun i a f ⟨ad,e,q⟩=>absurd (low i a f ad e) (by omega),fun i hi=>?_⟩;obtain⟨l,n,o⟩:=bT.1 hi;have:=h.seen l (mem_of_getElem? n);rw[o]at this;simp only[MemAct.low,stA]at this;omega
end
end
section
open Conc
open Go.ConcX (stA smA OfWg WgAt KK Payload Shy rd wr mk AtR0 AtK1 AtD1 AtD2 AtD3 AtD4 RCa RCd KCa DC0)
open Go.ConcN (sumTo upd sumTo_upd upd_ne upd_same)
variable{k:Nat}{a Q:Goroutine}{f:Goroutine→Goroutine}{i:Nat}
structure mN(P:Program)(X:Nat→Prop)(T:Trace)(gs:Array Goroutine)(q:Nat→Nat):Prop where
 old:∀i g,0<i→¬X i→gs[i]? =some g→QuitsD P (q i) (Deaf T i) g
 above:∀j,gs.size≤j→Deaf T j=0
section
variable{P:Program}{X:Nat→Prop}{T:Trace}{gs:Array Goroutine}{q:Nat→Nat}
def mN.of(h:Leavers P T gs q):mN P (fun _=>False) T gs q:=⟨fun i g b _ c=>h.old i g b c,h.above⟩
def mN.to(h:mN P (fun _=>False) T gs q):Leavers P T gs q:=⟨fun i g b c=>h.old i g b id c,h.above⟩
def ofEvents_g{g:Nat}{fn:FuncId}{c:String}{d:Array Event}:∀b∈MemOp.ofEvents g fn c d,b.g=g:=fun b aQ=>by obtain⟨e,_,rfl⟩:=Eb aQ;rfl
def zI(h:gs[k]? =some a):((gs.map f).setIfInBounds k Q)[k]? =some Q:=by
 have:=(dX.1 h).1;simp[this]
def tw{j:Nat}(b:k≠j):((gs.map f).setIfInBounds k Q)[j]? =(gs[j]?).map f:=by
 rw[Ec b,Array.getElem?_map]
def mN.own(h:mN P X T gs q)(n:k=0∨X k)(w:k<gs.size){b:Goroutine}{w':World}(fn:FuncId)(o:String)(p:Array Event):
 mN P X (T++MemOp.ofEvents k fn o p) ((gs.map (woken P a b w')).setIfInBounds k b) q:=by
 refine⟨fun i g r c d=>?_,fun j s=>?_⟩
 ·have e:k≠i:=fun l=>by subst l;exact n.elim (fun l=>by omega) c
  rw[tw e]at d;obtain⟨t,u,rfl⟩:=bT.1 d;have m:=h.old i t r c u;rw[woken_quitsD m,Deaf_other T (g':=k) e _ ofEvents_g];exact m
 ·have v:gs.size≤j:=by simpa using s
  rw[Deaf_other T (g':=k) (by omega) _ ofEvents_g];exact h.above j v
def mN.slip(h:mN P X T gs q)(s:0<i)(t:¬X i){g:Goroutine}(m:gs[i]? =some g)(c:g.status=.running):
 ∃g' b k,(∀u∈b,Event.mute u=true)∧(∀w,stepG P false g w=.go g' w b)∧q i=k+1∧
  ∀w fn o,mN P X (T++MemOp.ofEvents i fn o b) ((gs.map (woken P g g' w)).setIfInBounds i g') (upd q i k):=by
 have d:=h.old i g s t m;have E:=(dX.1 m).1;cases p:q i with
 |zero=>rw[p]at d;rw[d.1]at c;cases c
 |succ k=>
  rw[p]at d;rcases d with⟨v,_⟩|⟨_,g',b,x,y,A⟩
  ·rw[v]at c;cases c
  refine⟨g',b,k,x,y,rfl,fun w fn o=>⟨fun j F n B e=>?_,fun j n=>?_⟩⟩
  ·by_cases l:i=j
   ·subst l;rw[zI m]at e;obtain rfl:=dV e;rw[upd_same,Deaf_own];exact A
   ·rw[tw l]at e;obtain⟨z,C,rfl⟩:=bT.1 e;have r:=h.old j z n B C;rw[woken_quitsD r,upd_ne q k (fC l),Deaf_other T l _ ofEvents_g];exact r
  ·have D:gs.size≤j:=by simpa using n
   rw[Deaf_other T (g':=i) (by omega) _ ofEvents_g];exact h.above j D
def IL{n:Nat}(hi:i<n)(b:q i=k+1):sumTo n (upd q i k)<sumTo n q:=by
 have:=sumTo_upd q k id hi;simp only[id,b]at this;have c:(sumTo n fun a=>upd q i k a)=sumTo n (upd q i k):=rfl;have d:(sumTo n fun a=>q a)=sumTo n q:=rfl;omega
end
end
section
open Conc
open Go.ConcR (KK WgAt stA smA rd wr mk DC0 Payload Bk)
open Go.ConcN (AtK1 AtD1 AtD2 AtD3 AtD4 RW PayAt Has WgLive CTag WD)
variable{d:Nat}{t:b6}{g:Goroutine}{b:Nat}{q:Nat→Prop}{T:Nat}{tag:CTag}{S n Q:Nat}{es:Array Event}
structure dm where
 ty:TypeId
 Wg:Nat
 Sh:Loc→Prop
 aZ:Nat
 N:Nat
 bN:Nat
 ety:TypeId
 n:Nat
 mO:Nat→Nat→Prop
 mM:Nat→Prop
 cY:Nat→Nat→Prop
 iJ:Nat→Prop
 kx:Nat→Nat
 kO:Nat→World→Prop
 cG:World
def dm.Own(p:dm)(k:Nat)(l:Loc):Prop:=∃a,l=.cell a∧(p.mO k a.block∨(a.block=p.bN∧p.cY k a.off))
def dm.bL(p:dm)(l:Loc):Prop:=∃a,l=.cell a∧(p.mM a.block∨(a.block=p.bN∧p.iJ a.off))
def kP(b:Nat)(q:Nat→Prop)(w w':World):Prop:=
 w'.heap[b]? =w.heap[b]? ∨∃vs a t bx,w.heap[b]? =some (.cells vs t bx)∧w'.heap[b]? =some (.cells a t bx)∧a.size=vs.size∧∀c,q c→a[c]? =vs[c]?
def kP.refl(b:Nat)(q:Nat→Prop)(w:World):kP b q w w:=.inl rfl
def kP.trans{w cm R:World}(h:kP b q w cm)(k:kP b q cm R):kP b q w R:=by
 rcases h with h|⟨vs,r,t,bx,h1,h2,h3,h4⟩
 ·rcases k with k|⟨us,c,i,l,a,e,f,dr⟩
  ·exact .inl (k.trans h)
  ·exact .inr ⟨us,c,i,l,h▸a,e,f,dr⟩
 ·rcases k with k|⟨us,c,i,l,a,e,f,dr⟩
  ·exact .inr ⟨vs,r,t,bx,h1,k.trans h2,h3,h4⟩
  ·rw[h2]at a;cases a;exact .inr ⟨vs,c,t,bx,h1,e,f.trans h3,fun m o=>(dr m o).trans (h4 m o)⟩
def kP.xp{c:Nat→Prop}{w cm:World}(h:kP b q w cm)(k:∀a,c a→q a):kP b c w cm:=
 h.imp id fun⟨vs,e,t,bx,h1,h2,h3,h4⟩=>⟨vs,e,t,bx,h1,h2,h3,fun a f=>h4 a (k a f)⟩
def kP.cell{w cm:World}(h:kP b q w cm){a:Nat}(c:q a):cm.cell? ⟨b,a,none⟩=w.cell? ⟨b,a,none⟩:=by
 unfold World.cell?;rcases h with h|⟨vs,e,t,bx,h1,h2,h3,h4⟩
 ·simp only[h]
 ·simp only[h1,h2,h4 a c]
def kP.pay [Payload]{w cm:World}(h:kP b q w cm):PayAt b n w→PayAt b n cm:=by
 rintro⟨cs,a,c⟩;rcases h with h|⟨vs,e,t,bx,h1,h2,h3,h4⟩
 ·exact⟨cs,h.trans a,c⟩
 ·rw[h1]at a;cases a;exact⟨e,h2,h3.trans c⟩
section
variable(P:Program)(p:dm)
def dm.live(w:World):Prop:=WgLive p.ty p.Wg w
structure dw(k:Nat)(w cm:World):Prop where
 os:cm.os=w.os
 tape:cm.tape=w.tape
 output:cm.output=w.output
 size:w.heap.size≤cm.heap.size
 own:∀b,b<w.heap.size→p.mO k b∨p.mM b→cm.heap[b]? =w.heap[b]?
 bN:kP p.bN (fun o=>p.cY k o∨p.iJ o) w cm
 live:p.live w→p.live cm
structure jP(k:Nat)(w w':World)(es:Array Event):Prop where
 os:w'.os=w.os
 tape:w'.tape=w.tape
 output:w'.output=w.output
 size:w.heap.size≤w'.heap.size
 jN:∀b,b<w.heap.size→b≠p.bN→¬p.mO k b→w'.heap[b]? =w.heap[b]?
 bN:kP p.bN (fun o=>¬p.cY k o) w w'
 evs:∀e∈es,II p.Wg p.Own p.bL k w'.heap.size e∧e.loc≠.mark .disable∧e.loc≠.mark .enable
structure bR(w cm:World):Prop where
 os:cm.os=w.os
 tape:cm.tape=w.tape
 output:cm.output=w.output
 size:w.heap.size≤cm.heap.size
 eD:∀b,b<w.heap.size→p.mM b→cm.heap[b]? =w.heap[b]?
 live:p.live w→p.live cm
def zJ(w w':World)(es:Array Event):Prop:=(∃d,w'=w.at d)∧∀a∈es,Ev0 p.Wg p.bL w.heap.size a∧a.loc≠.mark .disable∧a.loc≠.mark .enable
@[reducible] def dm.pl:Payload:=⟨p.ety⟩
abbrev dm.rW(k:Nat):World→World→Prop:=letI:=p.pl;RW p.ty p.Wg p.bN p.n 0 (p.kx k)
def EY(k:Nat)(g:Goroutine)(w:World):Prop:=letI:=p.pl;g.status=.running∧p.kO k w∧∃g',stepG P false g w=.go g' w #[mk (.releaseMerge (stA p.Wg))]∧∃m,Goes P false (p.rW k) DC0 (AtK1 P p.ty p.Wg p.bN p.n 0 (p.kx k+1)) m g' w
def dm.xq(k:Nat)(w w':World):Prop:=∀c,w.heap.size≤c→c<w'.heap.size→p.mO k c
abbrev Works(k:Nat):Goroutine→World→Prop:=gF P false (dw p k) (p.xq k) (jP p k) (EY P p k)
inductive jw(k:Nat):Nat→b6→Nat→Nat→Goroutine→World→Prop
 |r0 {t:b6} {g:Goroutine} {w:World}:oQ P false (dw p k) (p.xq k) (jP p k) (EY P p k) t g w→jw k 7 t 0 0 g w|k1 {t:b6} {g:Goroutine} {w:World}:eV P false (p.rW k) DC0 (letI:=p.pl;AtK1 P p.ty p.Wg p.bN p.n 0 (p.kx k+1)) t g w→jw k 6 t 0 0 g w|d1 {t:b6} {g:Goroutine} {w:World}:eV P false (p.rW k) DC0 (letI:=p.pl;AtD1 P p.ty p.Wg p.bN p.n 0 (p.kx k+1)) t g w→jw k 5 t 0 1 g w|d2 {t:b6} {g:Goroutine} {w:World}:eV P false (p.rW k) DC0 (letI:=p.pl;AtD2 P p.ty p.Wg p.bN p.n 0 (p.kx k+1)) t g w→jw k 4 t 0 1 g w|d3 {t:b6} {g:Goroutine} {w:World}:eV P false (p.rW k) DC0 (letI:=p.pl;AtD3 P p.ty p.Wg p.bN p.n 0 (p.kx k+1)) t g w→jw k 3 t 0 1 g w|d4 {t:b6} {g:Goroutine} {w:World}:eV P false (p.rW k) DC0 (AtD4 P p.ty p.Wg) t g w→jw k 2 t 0 1 g w|quit {q d:Nat} {g:Goroutine} {w:World}:QuitsD P q d g→jw k 1 .leaf q d g w
abbrev fH(a:lp):Goroutine→World→Prop:=Way P true (bR p) (zJ p) a
abbrev nw(a:lp)(t:b6):Goroutine→World→Prop:=eV P true (bR p) (zJ p) a t
section
variable(Next Anch:Goroutine→World→Prop)
def zK(g:Goroutine)(w:World):Prop:=g.status=.running∧∃g',stepG P true g w=.go g' w #[mk (.acquire (stA p.Wg))]∧((∀k,k<p.N→p.kO k w)→Next g' w)
def vg(g:Goroutine)(w:World):Prop:=g.status=.running∧∃g',stepG P true g w=.go g' w #[mk .enable]∧fH P p (zK P p Next) g' w
def zL(g:Goroutine)(w:World):Prop:=g.status=.running∧(WgAt p.ty p.Wg w 0 0→∃g',stepG P true g w=.go g' w #[rd (stA p.Wg)]∧fH P p (vg P p Next) g' w)
def xu(g:Goroutine)(w:World):Prop:=
 g.status=.running∧g.offers=none∧((∃az,WgAt p.ty p.Wg w az 0)→stepG P true g w=.go {g with status:=.blocked} w #[])∧
  (WgAt p.ty p.Wg w 0 1→∃g',stepG P true g w=.go g' (w.setCell (smA p.Wg) (.int .u32 0)) (semEvents (smA p.Wg))∧fH P p (zL P p Next) g' (w.setCell (smA p.Wg) (.int .u32 0)))
def zM(vs:Nat)(g:Goroutine)(w:World):Prop:=
 g.status=.running∧∀v:Nat,v<2147483648→WgAt p.ty p.Wg w (v*KK) 0→
  (v=vs→∃g',stepG P true g w=.go g' (w.setCell (stA p.Wg) (.int .u64 (v*KK+1))) #[rd (stA p.Wg),wr (stA p.Wg)]∧fH P p (xu P p Next) g' (w.setCell (stA p.Wg) (.int .u64 (v*KK+1))))∧
  (v≠vs→∃g',stepG P true g w=.go g' w #[rd (stA p.Wg)]∧fH P p Anch g' w)
def qF(g:Goroutine)(w:World):Prop:=
 g.status=.running∧∀v:Nat,v<2147483648→WgAt p.ty p.Wg w (v*KK) 0→∃g',stepG P true g w=.go g' w #[rd (stA p.Wg)]∧
  (v=0→fH P p (vg P p Next) g' w)∧(v≠0→fH P p (zM P p Next Anch v) g' w)
def xw(g:Goroutine)(w:World):Prop:=g.status=.running∧∃g',stepG P true g w=.go g' w #[mk .disable]∧fH P p Anch g' w
end
section
variable(U:Goroutine→World→Prop)(j:Nat)
def IM(g:Goroutine)(w:World):Prop:=g.status=.running∧∃g' child,stepG P true g w=.spawn g' child w #[]∧child.status=.running∧(dw p j p.cG w→Works P p j child w)∧U g' w
def OH(g:Goroutine)(w:World):Prop:=g.status=.running∧∃g',stepG P true g w=.go g' w #[mk .enable]∧fH P p (IM P p U j) g' w
def OI(g:Goroutine)(w:World):Prop:=g.status=.running∧∀v:Nat,v<2147483647→WgAt p.ty p.Wg w (v*KK) 0→
 ∃g',stepG P true g w=.go g' (w.setCell (stA p.Wg) (.int .u64 ((v+1)*KK))) #[rd (stA p.Wg),wr (stA p.Wg)]∧fH P p (OH P p U j) g' (w.setCell (stA p.Wg) (.int .u64 ((v+1)*KK)))
def EZ(g:Goroutine)(w:World):Prop:=g.status=.running∧∃g',stepG P true g w=.go g' w #[mk .disable]∧fH P p (OI P p U j) g' w
end
def Spawns(Fin:Goroutine→World→Prop):Nat→Goroutine→World→Prop|0,g,w=>Fin g w|r+1,g,w=>fH P p (EZ P p (Spawns Fin r) (p.N-(r+1))) g w
variable(Next Anch:Goroutine→World→Prop)
abbrev oR:Nat→Goroutine→World→Prop:=Spawns P p (fH P p (xw P p Anch))
inductive fh:CTag→Nat→b6→Nat→Nat→Goroutine→World→Prop
 |skd {r:Nat} {t:b6} {g:Goroutine} {w:World}:r<p.N→nw P p (EZ P p (oR P p Anch r) (p.N-(r+1))) t g w→fh (.sp r 5) (p.N-(r+1)) t 0 1 g w|sa1 {r:Nat} {t:b6} {g:Goroutine} {w:World}:r<p.N→nw P p (OI P p (oR P p Anch r) (p.N-(r+1))) t g w→fh (.sp r 4) (p.N-(r+1)) t 1 1 g w|ske {r:Nat} {t:b6} {g:Goroutine} {w:World}:r<p.N→nw P p (OH P p (oR P p Anch r) (p.N-(r+1))) t g w→fh (.sp r 3) (p.N-(r+1)) t 1 1 g w|sgo {r:Nat} {t:b6} {g:Goroutine} {w:World}:r<p.N→nw P p (IM P p (oR P p Anch r) (p.N-(r+1))) t g w→fh (.sp r 2) (p.N-(r+1)) t 0 1 g w|kd {t:b6} {g:Goroutine} {w:World}:nw P p (xw P p Anch) t g w→fh .kd p.N t 0 1 g w|anch {t:b6} {g:Goroutine} {w:World}:nw P p Anch t g w→fh .anch p.N t 1 1 g w|w1 {t:b6} {g:Goroutine} {w:World}:nw P p (qF P p Next Anch) t g w→fh .w1 p.N t 1 1 g w|w2 {vs:Nat} {t:b6} {g:Goroutine} {w:World}:nw P p (zM P p Next Anch vs) t g w→fh (.w2 vs) p.N t 1 1 g w|w3 {t:b6} {g:Goroutine} {w:World}:nw P p (xu P p Next) t g w→fh .w3 p.N t 1 1 g w|blk {g:Goroutine} {w:World}:(∀cm,bR p w cm→xu P p Next g cm)→fh .blk p.N .leaf 1 0 {g with status:=.blocked} w
 |w4 {t:b6} {g:Goroutine} {w:World}:nw P p (zL P p Next) t g w→fh .w4 p.N t 1 1 g w|ke {t:b6} {g:Goroutine} {w:World}:nw P p (vg P p Next) t g w→fh .ke p.N t 1 1 g w|acq {t:b6} {g:Goroutine} {w:World}:nw P p (zK P p Next) t g w→fh .acq p.N t 0 1 g w
end
section
variable{P:Program}{p:dm}{Next Anch:Goroutine→World→Prop}{k:Nat}{w cm R:World}
structure eL(p:dm):Prop where
 mn:∀k Q b,p.mO k b→p.mO Q b→k=Q
 new:∀k b,p.mO k b→p.cG.heap.size≤b
 Xk:∀k a,p.mO k a→∀x:Addr,x.block=a→¬p.Sh (.cell x)
 eD:∀b,p.mM b→b<p.cG.heap.size∧b≠p.Wg∧b≠p.bN∧∀x:Addr,x.block=b→¬p.Sh (.cell x)
 wg:p.Wg<p.cG.heap.size
 bN:p.bN<p.cG.heap.size∧p.bN≠p.Wg∧∀x:Addr,x.block=p.bN→¬p.Sh (.cell x)
 rX:∀k Q o,p.cY k o→p.cY Q o→k=Q
 xx:∀k o,p.cY k o→¬p.iJ o
 kx:∀k,p.cY k (p.kx k)∨p.iJ (p.kx k)
 aZ:0<p.aZ
 E0:p.N<2147483648
 pay:∀k w w',dw p k w w'→p.kO k w→p.kO k w'
def eL.vh(c:eL p):tv p.Sh p.Wg p.Own p.bL p.aZ:=by
 refine⟨?_,?_,?_,?_,?_,?_,c.aZ⟩
 ·rintro k Q l ⟨a,rfl,h⟩ ⟨b,f,e⟩;cases f;rcases h with h|⟨h,i⟩<;>rcases e with e|⟨e,m⟩
  ·exact c.mn _ _ _ h e
  ·have:=c.new _ _ h;have:=c.bN.1;omega
  ·have:=c.new _ _ e;have:=c.bN.1;omega
  ·exact c.rX _ _ _ i m
 ·rintro k l ⟨a,rfl,h⟩ ⟨b,f,e⟩;cases f;rcases h with h|⟨h,i⟩<;>rcases e with e|⟨e,m⟩
  ·have:=c.new _ _ h;have:=(c.eD _ e).1;omega
  ·have:=c.new _ _ h;have:=c.bN.1;omega
  ·exact(c.eD _ e).2.2.1 h
  ·exact c.xx _ _ i m
 ·rintro k l ⟨a,rfl,h|⟨h,_⟩⟩
  ·exact c.Xk _ _ h _ rfl
  ·exact c.bN.2.2 _ h
 ·rintro k l ⟨a,rfl,h⟩ ⟨b,f,e⟩;cases f;rcases h with h|⟨h,_⟩
  ·have:=c.new _ _ h;have:=c.wg;omega
  ·exact c.bN.2.1 (h▸e)
 ·rintro l ⟨a,rfl,h|⟨h,_⟩⟩
  ·exact(c.eD _ h).2.2.2 _ rfl
  ·exact c.bN.2.2 _ h
 ·rintro l ⟨a,rfl,h⟩ ⟨b,f,e⟩;cases f;rcases h with h|⟨h,_⟩
  ·exact(c.eD _ h).2.1 e
  ·exact c.bN.2.1 (h▸e)
def dw.refl(k:Nat)(w:World):dw p k w w:=⟨rfl,rfl,rfl,aV _,fun _ _ _=>rfl,.refl _ _ _,id⟩
def dw.trans(h:dw p k w cm)(a:dw p k cm R):dw p k w R:=⟨a.os.trans h.os,a.tape.trans h.tape,a.output.trans h.output,ga h.size a.size,fun b c e=>(a.own b (dN c h.size) e).trans (h.own b c e),h.bN.trans a.bN,a.live∘h.live⟩
def dw.aH:∀a b c,dw p k a b→dw p k b c→dw p k a c:=fun _ _ _ h e=>h.trans e
def dw.at(k:Nat)(w:World)(d:Nat):dw p k w (w.at d):=⟨rfl,rfl,rfl,aV _,fun _ _ _=>rfl,.refl _ _ _,id⟩
def bR.refl(w:World):bR p w w:=⟨rfl,rfl,rfl,aV _,fun _ _ _=>rfl,id⟩
def bR.trans(h:bR p w cm)(a:bR p cm R):bR p w R:=⟨a.os.trans h.os,a.tape.trans h.tape,a.output.trans h.output,ga h.size a.size,fun b c e=>(a.eD b (dN c h.size) e).trans (h.eD b c e),a.live∘h.live⟩
def bR.aH:∀a b c,bR p a b→bR p b c→bR p a c:=fun _ _ _ h e=>h.trans e
def bR.at(w:World)(d:Nat):bR p w (w.at d):=⟨rfl,rfl,rfl,aV _,fun _ _ _=>rfl,id⟩
def qG [Payload]{C Low i:Nat}{e:TypeId}{f:Nat}:∀a b c,RW e f C n Low i a b→RW e f C n Low i b c→RW e f C n Low i a c:=fun _ _ _ h l=>h.trans l
def dw.rw(a:eL p)(h:dw p k w cm):p.rW k w cm:=letI:=p.pl;⟨fun b c=>absurd c (oz _),h.live,h.bN.pay,h.bN.cell (a.kx k)⟩
def jP.nr(a:eL p)(h:jP p Q w cm es)(f:k≠Q):dw p k w cm:=by
 have i:∀b,p.mO k b∨p.mM b→b≠p.bN∧¬p.mO Q b:=by
  rintro b (c|c)
  ·exact⟨fun l=>by have:=a.new _ _ c;have:=a.bN.1;omega,fun e=>f (a.mn _ _ _ c e)⟩
  ·exact⟨(a.eD _ c).2.2.1,fun e=>by have:=a.new _ _ e;have:=(a.eD _ c).1;omega⟩
 refine⟨h.os,h.tape,h.output,h.size,fun b c m=>h.jN b c (i b m).1 (i b m).2,h.bN.xp fun u s o=>?_,fun⟨az,sm,r⟩=>⟨az,sm,?_⟩⟩
 ·exact s.elim (fun z=>f (a.rX _ _ _ z o)) (a.xx _ _ o)
 ·exact r.of_block (h.jN _ (dX.1 r).1 (fun l=>a.bN.2.1 l.symm) fun z=>by have:=a.new _ _ z;have:=a.wg;omega)
def jP.Xl(a:eL p)(h:jP p Q w cm es):bR p w cm:=
 ⟨h.os,h.tape,h.output,h.size,fun b f c=>h.jN b f (a.eD _ c).2.2.1 fun z=>(by have:=a.new _ _ z;have:=(a.eD _ c).1;omega),
  fun⟨az,sm,e⟩=>⟨az,sm,e.of_block (h.jN _ (dX.1 e).1 (fun i=>a.bN.2.1 i.symm) fun z=>by have:=a.new _ _ z;have:=a.wg;omega)⟩⟩
def dw.of_wg(c:eL p)(h:Aside p.Wg w cm)(e:p.live cm):dw p k w cm:=
 ⟨h.os,h.tape,h.output,pI h.size.symm,fun b _ a=>h.block b fun f=>by
  rcases a with a|a
  ·have:=c.new _ _ a;have:=c.wg;omega
  ·exact(c.eD _ a).2.1 f,.inl (h.block _ c.bN.2.1),fun _=>e⟩
def bR.of_wg(a:eL p)(h:Aside p.Wg w cm)(c:p.live cm):bR p w cm:=
 ⟨h.os,h.tape,h.output,pI h.size.symm,fun b _ e=>h.block b fun f=>(a.eD _ e).2.1 f,fun _=>c⟩
def jw.rely(c:eL p){q:Nat}(h:jw P p k T t q d g w)(a:dw p k w cm):jw P p k T t q d g cm:=by
 cases h with
 |r0 h=>exact .r0 (h.rely dw.aH a)|k1 h=>exact .k1 (h.rely (letI:=p.pl;qG) (a.rw c))|d1 h=>exact .d1 (h.rely (letI:=p.pl;qG) (a.rw c))|d2 h=>exact .d2 (h.rely (letI:=p.pl;qG) (a.rw c))|d3 h=>exact .d3 (h.rely (letI:=p.pl;qG) (a.rw c))|d4 h=>exact .d4 (h.rely (letI:=p.pl;qG) (a.rw c))|quit h=>exact .quit h
def jw.status{q:Nat}(h:jw P p k T t q d g w):(g.status=.running∨g.status=.finished)∧(T≠1→g.status=.running):=by
 have e:∀w,p.rW k w w:=letI:=p.pl;fun w=>rJ w;have c:g.status=.running→(g.status=.running∨g.status=.finished)∧(T≠1→g.status=.running):=fun h=>⟨.inl h,fun _=>h⟩;cases h with
 |r0 h=>exact c (h.status (dw.refl k) fun _ _ a=>a.1)|k1 h=>exact c (h.status e fun _ _ a=>a.1)|d1 h=>exact c (h.status e fun _ _ a=>a.1)|d2 h=>exact c (h.status e fun _ _ a=>a.1)|d3 h=>exact c (h.status e fun _ _ a=>a.1)|d4 h=>exact c (h.status e fun _ _ a=>a.1)|quit h=>exact⟨h.status,fun f=>absurd rfl f⟩
def jw.woken{q:Nat}(h:jw P p k T t q d g w)(a c:Goroutine)(w':World):Conc.woken P a c w' g=g:=by
 unfold Conc.woken;split
 ·exact again_running _ h.status.1
 ·rfl
def fh.rely{j:Nat}(h:fh P p Next Anch tag j t d S g w)(a:bR p w cm):fh P p Next Anch tag j t d S g cm:=by
 cases h with
 |skd c h=>exact .skd c (h.rely bR.aH a)|sa1 c h=>exact .sa1 c (h.rely bR.aH a)|ske c h=>exact .ske c (h.rely bR.aH a)|sgo c h=>exact .sgo c (h.rely bR.aH a)|kd h=>exact .kd (h.rely bR.aH a)|anch h=>exact .anch (h.rely bR.aH a)|w1 h=>exact .w1 (h.rely bR.aH a)|w2 h=>exact .w2 (h.rely bR.aH a)|w3 h=>exact .w3 (h.rely bR.aH a)|blk h=>exact .blk fun R e=>h R (a.trans e)|w4 h=>exact .w4 (h.rely bR.aH a)|ke h=>exact .ke (h.rely bR.aH a)|acq h=>exact .acq (h.rely bR.aH a)
def fh.status(i:∀g w,Anch g w→g.status=.running){j:Nat}(h:fh P p Next Anch tag j t d S g w):(S=1∧g.status=.running∧tag≠.blk)∨(S=0∧g.status=.blocked∧tag=.blk):=by
 have c:∀{f:lp},nw P p f t g w→(∀g w,f g w→g.status=.running)→g.status=.running:=fun h k=>h.status bR.refl k;cases h with
 |blk h=>exact .inr ⟨rfl,rfl,rfl⟩|anch h=>exact .inl ⟨rfl,c h i,by simp⟩|skd e h=>exact .inl ⟨rfl,c h fun _ _ a=>a.1,by simp⟩|sa1 e h=>exact .inl ⟨rfl,c h fun _ _ a=>a.1,by simp⟩|ske e h=>exact .inl ⟨rfl,c h fun _ _ a=>a.1,by simp⟩|sgo e h=>exact .inl ⟨rfl,c h fun _ _ a=>a.1,by simp⟩|_ h=>exact .inl ⟨rfl,c h fun _ _ a=>a.1,by simp⟩
def fh.woken(f:∀g w,Anch g w→g.status=.running){j:Nat}(h:fh P p Next Anch tag j t d S g w)(b c:Goroutine)(w':World):
 ∃a i l,fh P p Next Anch a j i d l (Conc.woken P b c w' g) w∧(a=tag∨(tag=.blk∧a=.w3))∧(mayWake P b=true→c.status=.running→a≠.blk):=by
 rcases h.status f with⟨_,m,o⟩|⟨_,_,_⟩
 ·rw[woken_run m];exact⟨tag,t,S,h,.inl rfl,fun _ _=>o⟩
 ·cases h with
  |@blk g w h=>
   unfold Conc.woken;split
   ·have e:=h w (bR.refl w);rw[Go.ConcX.again_blocked e.1 e.2.1];exact⟨_,_,_,.w3 (t:=.leaf) h,.inr ⟨rfl,rfl⟩,fun _ _=>by simp⟩
   ·rename_i r;exact⟨_,_,_,.blk h,.inl rfl,fun h1 h2=>by simp[h1,h2]at r⟩
  |_=>simp_all
end
end
section
open Conc
open Go.ConcX (stA smA OfWg WgAt KK rd wr mk AtK1 AtD1 AtD2 AtD3 AtD4 RCa RCd KCa DC0)
open Go.ConcN (sumTo upd sumTo_upd upd_ne upd_same)
structure qH(P:Program)(cv:Machine)(J:Nat)(M:Machine)(T:Trace):Prop where
 run:runNT P J cv #[]=(.next M,T)
 up:∀j,j≤J→∃m,runN P j cv=.next m∧m.world.heap.size≤M.world.heap.size
def E1{P:Program}:∀{J:Nat} {m M b:Machine} {T c:Trace} {e:Array MemOp},runNT P J m T=(.next M,c)→stepT P M=(.next b,e)→runNT P (J+1) m T=(.next b,c++e)
 |0,m,M,b,T,c,e,h,f=>by
  simp only[runNT,aO,Stepped.next.injEq]at h;obtain⟨rfl,rfl⟩:=h;simp[runNT,f]
 |J+1,m,M,b,T,c,e,h,f=>by
  rw[runNT]at h⊢;split at h
  ·rename_i k g i;exact E1 h f
  ·rename_i l n g j i;cases h;exact(j _ rfl).elim
def qH.nil(P:Program)(cv:Machine):qH P cv 0 cv #[]:=⟨rfl,fun j b=>by
 obtain rfl:j=0:=by omega
 exact⟨cv,rfl,aV _⟩⟩
def qH.step{P:Program}{cv M b:Machine}{J:Nat}{T:Trace}{c:Array MemOp}(h:qH P cv J M T)(f:stepT P M=(.next b,c))(g:M.world.heap.size≤b.world.heap.size):qH P cv (J+1) b (T++c):=by
 have e:=E1 h.run f;refine⟨e,fun j n=>?_⟩;rcases cu J j with o|i
 ·obtain rfl:j=J+1:=by omega
  refine⟨b,?_,aV _⟩;have:=runNT_fst P (J+1) cv #[];rw[e]at this;exact this.symm
 ·obtain⟨m,k,l⟩:=h.up j i;exact⟨m,k,ga l g⟩
def zN(Sh:Loc→Prop)(Wg:Nat)(w w':World)(c:Array Event):Prop:=w.heap.size≤w'.heap.size∧∀b∈c,zH Sh Wg w'.heap.size b∧b.loc≠.mark .disable∧b.loc≠.mark .enable
structure iK(P:Program)(cv:Machine)(Sh:Loc→Prop)(Wg d:Nat)(gs:Array Goroutine)(a:Goroutine)(w:World)(sl:Option (Nat×Nat))(T:Trace)(q:Nat→Nat):Prop where
 run:∃J,qH P cv J (crowd gs w sl) T
 h0:gs[0]? =some a
 nx:Leavers P T gs q
 lt:LT Sh Wg w.heap.size d T
section
variable{P:Program}{cv:Machine}{Sh:Loc→Prop}{Wg d:Nat}{gs:Array Goroutine}{a:Goroutine}{w:World}{sl:Option (Nat×Nat)}{T:Trace}{q:Nat→Nat}
def IN(b:gs[0]? =some a)(c:a.status=.running)(e:Leavers P T gs q):∀g∈gs,Conc.awake g:=by
 intro g f;obtain⟨i,hi,rfl⟩:=anQ.1 f;rcases qx i with rfl|h
 ·have:gs[0]=a:=by simpa[dP hi]using b
  rw[this];exact awake_of (.inl c)
 ·exact awake_of ((e.old i _ h (dP hi)).status.elim .inl fun j=>.inr (.inr j))
def mP:∀a b c,AtRel a b→AtRel b c→AtRel a c:=by
 rintro a b c ⟨d,rfl⟩ ⟨e,rfl⟩;exact⟨e,rfl⟩
def iK.step(h:iK P cv Sh Wg d gs a w sl T q){e:Nat}{f:Option (Nat×Nat)}(j:stepT P (crowd gs w sl)=runT P (crowd gs (w.at e) f) 0){b:Goroutine}{w':World}{c:Array Event}
 (k:stepG P true a (w.at e)=.go b w' c) (g:w.heap.size≤w'.heap.size) (l:∀m∈c,zH Sh Wg w'.heap.size m):
 iK P cv Sh Wg (deafBehind d c) ((gs.map (woken P a b w')).setIfInBounds 0 b) b w' f (T++MemOp.ofEvents 0 a.frame.fn a.frame.place c) q:=by
 obtain⟨J,n⟩:=h.run;have o:=runT_crowd_go (P:=P) (sl:=f) (i:=0) h.h0 (show stepG P (0==0) a (w.at e)=_ from k);exact⟨⟨J+1,n.step (j.trans o) g⟩,zI h.h0,((mN.of h.nx).own (.inl rfl) (dX.1 h.h0).1 _ _ _).to,h.lt.own g l⟩
def iK.slip(h:iK P cv Sh Wg d gs a w sl T q)(j:a.status=.running){i b:Nat}{c:Option (Nat×Nat)}(l:0<i){f:Goroutine}(hi:gs[i]? =some f)(m:f.status=.running)
 (n:stepT P (crowd gs w sl)=runT P (crowd gs (w.at b) c) i):
 ∃e o g,iK P cv Sh Wg d e a (w.at b) c o g∧e.size=gs.size∧sumTo e.size g<sumTo gs.size q:=by
 obtain⟨g',y,k,p,r,s,t⟩:=(mN.of h.nx).slip l id hi m;have u:(i==0)=false:=by simp;omega
 have v:=runT_crowd_go (P:=P) (sl:=c) (i:=i) hi (by rw[u];exact r (w.at b));obtain⟨J,x⟩:=h.run;refine⟨_,_,upd q i k,⟨⟨J+1,x.step (n.trans v) (aV _)⟩,by rw[tw (by omega),h.h0,ig,woken_run j],(t _ _ _).to,h.lt.mute (by omega) p⟩,by simp,?_⟩;simpa using IL (q:=q) (dX.1 hi).1 s
abbrev Xm:b6×Nat→b6×Nat→Prop:=Prod.Lex b6.Below (·<·)
def Xn:WellFounded Xm:=(Prod.lex ⟨b6.Below,b6.wf⟩ Nat.lt_wfRel).wf
def iK.Xo{k:lp}(L:∀g w,k g w→g.status=.running):∀(c:b6×Nat) (gs:Array Goroutine) (a:Goroutine) (w:World) (sl:Option (Nat×Nat)) (T:Trace) (q:Nat→Nat),
 c.2=sumTo gs.size q→iK P cv Sh Wg d gs a w sl T q→eV P true AtRel (zN Sh Wg) k c.1 a w→
 ∃b e w' l m o f j,iK P cv Sh Wg d b e w' l m o∧b.size=gs.size∧w.heap.size≤w'.heap.size∧stepT P (crowd b w' l)=runT P (crowd b (w'.at f) j) 0∧k e (w'.at f):=by
 intro c
 induction c using Xn.induction with
 |_ c I=>
  obtain⟨t,n⟩:=c;intro gs a w sl T q M h s;simp only at M s;have u:a.status=.running:=s.status AtRel.refl L;obtain⟨i,Z,f,l,hi,N,v⟩:=crowd_pick (P:=P) (w:=w) (sl:=sl) (IN h.h0 u h.nx) ⟨0,a,h.h0,u⟩;have J:eV P true AtRel (zN Sh Wg) k t a (w.at f):=s.rely mP ⟨f,rfl⟩;rcases qx i with rfl|O
  ·rcases J.cases AtRel.refl with⟨rfl,Q⟩|⟨R,g',w',aa,K,S,p,U⟩
   ·exact⟨gs,a,w,sl,T,q,f,l,h,rfl,aV _,v,Q _ (AtRel.refl _)⟩
   ·have r:=h.step v S p.1 (fun x y=>(p.2 x y).1);rw[deafBehind_still (fun x y=>(p.2 x y).2)]at r;obtain⟨b,e,z,j,m,o,A,B,C,D,E,F,H⟩:=I (R,_) (.left _ _ K) _ _ _ _ _ _ rfl r U;exact⟨b,e,z,j,m,o,A,B,C,D.trans (by simp),ga p.1 E,F,H⟩
  ·obtain⟨b,m,o,r,V,K⟩:=h.slip u O hi N v;obtain⟨W,e,z,j,X,Y,A,B,C,D,E,F,H⟩:=I (t,_) (.right _ (by omega)) _ _ _ _ _ _ rfl r J;exact⟨W,e,z,j,X,Y,A,B,C,D.trans V,E,F,H⟩
def iK.walk{Stop:lp}(i:∀g w,Stop g w→g.status=.running)(h:iK P cv Sh Wg d gs a w sl T q)(j:Way P true AtRel (zN Sh Wg) Stop a w):
 ∃b c w' e k l f m,iK P cv Sh Wg d b c w' e k l∧b.size=gs.size∧w.heap.size≤w'.heap.size∧stepT P (crowd b w' e)=runT P (crowd b (w'.at f) m) 0∧Stop c (w'.at f):=by
 obtain⟨t,n⟩:=j.iI;exact iK.Xo i (t,_) gs a w sl T q rfl h n
end
end
section
open Conc
open Go.ConcR (KK WgAt stA smA rd wr mk DC0 Payload Bk)
open Go.ConcN (AtK1 AtD1 AtD2 AtD3 AtD4 RW PayAt Has WgLive CTag WD phi Vc Ssum Fsum cnt pend OpenSt AllQuit isOpen isW3 isFin sumTo upd sumTo_upd upd_ne upd_same Vc_le Vc_upd le_sumTo bk_cell others_uncounted phi_mono phi_retag)
variable{R:Nat}{x:WD}{t':b6}
def Ca(N:Nat)(f g:Nat→b6):Prop:=∃k,k<N∧b6.Below (f k) (g k)∧∀i,i≠k→f i=g i
def OJ:∀N,WellFounded (Ca N)
 |0=>⟨fun g=>⟨_,fun f ⟨k,b,_⟩=>absurd b (oz _)⟩⟩|N+1=>by
  have i:∀x,∀g:Nat→b6,g N=x→Acc (Ca (N+1)) g:=by
   intro x
   induction x using b6.wf.induction with
   |_ x l=>
    intro g
    induction g using(OJ N).induction with
    |_ g m=>
     intro c;refine⟨_,fun f ⟨k,b,d,e⟩=>?_⟩;rcases cu k N with h|h
     ·exact m f ⟨k,h,d,e⟩ ((e N (by omega)).trans c)
     ·obtain rfl:k=N:=by omega
      exact l (f k) (c▸d) f rfl
  exact⟨fun g=>i _ g rfl⟩
abbrev IP:Type:=Nat×Nat×(Nat→b6)×b6×Nat
abbrev Xp(N:Nat):IP→IP→Prop:=Prod.Lex (·<·) (Prod.Lex (·<·) (Prod.Lex (Ca N) (Prod.Lex b6.Below (·<·))))
def Xq(N:Nat):WellFounded (Xp N):=(Prod.lex Nat.lt_wfRel (Prod.lex Nat.lt_wfRel (Prod.lex ⟨Ca N,OJ N⟩ (Prod.lex ⟨b6.Below,b6.wf⟩ Nat.lt_wfRel)))).wf
structure FAA(p:dm)(j:Nat)(w:World):Prop where
 os:w.os=p.cG.os
 tape:w.tape=p.cG.tape
 output:w.output=p.cG.output
 size:p.cG.heap.size≤w.heap.size
 jN:∀b,b<p.cG.heap.size→b≠p.bN→b≠p.Wg→w.heap[b]? =p.cG.heap[b]?
 bN:kP p.bN (fun o=>∀k,k<j→¬p.cY k o) p.cG w
section
variable{P:Program}{p:dm}{Next Anch:Goroutine→World→Prop}{j k:Nat}{w w' W:World}
def FAA.nr(d:eL p)(h:FAA p j w)(m:p.live w)(n:j≤k):dw p k p.cG w:=by
 refine⟨h.os,h.tape,h.output,h.size,fun b f c=>?_,h.bN.xp fun o e i hi l=>?_,fun _=>m⟩
 ·rcases c with c|c
  ·exact absurd f (Nat.not_lt.2 (d.new _ _ c))
  ·exact h.jN b f (d.eD _ c).2.2.1 (d.eD _ c).2.1
 ·rcases e with e|e
  ·have:=d.rX _ _ _ e l;omega
  ·exact d.xx _ _ l e
def FAA.IJ(e:eL p)(h:FAA p j w){Q:Array Event}(f:k<j)(c:jP p k w w' Q):FAA p j w':=
 ⟨c.os.trans h.os,c.tape.trans h.tape,c.output.trans h.output,ga h.size c.size,
  fun b d h1 h2=>(c.jN b (dN d h.size) h1 fun z=>by have:=e.new _ _ z;omega).trans (h.jN b d h1 h2),h.bN.trans (c.bN.xp fun l i=>i k f)⟩
def FAA.of_wg(c:eL p)(h:FAA p j w)(cB:Aside p.Wg w w'):FAA p j w':=
 ⟨cB.os.trans h.os,cB.tape.trans h.tape,cB.output.trans h.output,ga h.size (pI cB.size.symm),fun b d h1 h2=>(cB.block b h2).trans (h.jN b d h1 h2),h.bN.trans (.inl (cB.block _ c.bN.2.1))⟩
def FAA.succ(h:FAA p j w):FAA p (j+1) w:=⟨h.os,h.tape,h.output,h.size,h.jN,h.bN.xp fun c b i hi=>b i (by omega)⟩
abbrev pS(D:Nat→WD):Nat→Nat:=fun i=>(D i).deaf
abbrev vi(D:Nat→WD):Nat→Prop:=fun i=>(D i).stage≤6
structure fj(P:Program)(p:dm)(gs:Array Goroutine)(w:World)(T:Trace)(q:Nat→Nat)(j:Nat)(D:Nat→WD)(iL:Nat→b6)(d0:Nat):Prop where
 size:gs.size=p.aZ+j
 wk:∀k,k<j→∃g,gs[p.aZ+k]? =some g∧jw P p k (D k).stage (iL k) (D k).fuel (D k).deaf g w
 rY:mN P (fun i=>p.aZ≤i) T gs q
 bE:fG p.Sh p.Wg p.Own p.bL p.aZ j w.heap.size d0 (pS D) (vi D) T
 pay:∀k,k<j→(D k).stage≤6→p.kO k w
 lq:FAA p j w
variable{gs:Array Goroutine}{T:Trace}{q:Nat→Nat}{D:Nat→WD}{iL:Nat→b6}{d0 U:Nat}{V:b6}{tag:CTag}{a g g':Goroutine}{Q:Array Event}{az sm:Int}
def fj.at(c:eL p)(h:fj P p gs w T q j D iL d0)(d:Nat):fj P p gs (w.at d) T q j D iL d0:=
 ⟨h.size,fun k b=>let⟨g,h1,h2⟩:=h.wk k b;⟨g,h1,h2.rely c (dw.at k w d)⟩,h.rY,h.bE,fun k b e=>c.pay k _ _ (dw.at k w d) (h.pay k b e),⟨h.lq.os,h.lq.tape,h.lq.output,h.lq.size,h.lq.jN,h.lq.bN⟩⟩
def fj.Xr(d:eL p)(h:fj P p gs w T q j D iL d0)(u:k<j)(e:gs[p.aZ+k]? =some g)(f:∀i,i<j→i≠k→dw p i w w')(m:FAA p j w')
 (n:jw P p k x.stage t' x.fuel x.deaf g' w') (o:fG p.Sh p.Wg p.Own p.bL p.aZ j w'.heap.size d0 (pS (upd D k x)) (vi (upd D k x)) (T++MemOp.ofEvents (p.aZ+k) g.frame.fn g.frame.place Q)) (r:x.stage≤6→p.kO k w'):
 fj P p ((gs.map (woken P g g' w')).setIfInBounds (p.aZ+k) g') w' (T++MemOp.ofEvents (p.aZ+k) g.frame.fn g.frame.place Q) q j (upd D k x) (upd iL k t') d0:=by
 refine⟨by simpa using h.size,fun i hi=>?_,h.rY.own (.inr (Nat.le_add_right _ _)) (dX.1 e).1 _ _ _,o,fun i hi c=>?_,m⟩
 ·by_cases b:i=k
  ·subst b;rw[upd_same,upd_same];exact⟨g',zI e,n⟩
  ·obtain⟨s,t,l⟩:=h.wk i hi;rw[upd_ne D x b,upd_ne iL t' b];refine⟨s,?_,l.rely d (f i hi b)⟩;rw[tw (by omega),t,ig,l.woken]
 ·by_cases b:i=k
  ·subst b;rw[upd_same]at c;exact r c
  ·rw[upd_ne D x b]at c;exact d.pay i _ _ (f i hi b) (h.pay i hi c)
def OK(N:Nat)(S b:Nat)(iL:Nat→b6)(c d:Nat)(e:Nat→b6):Prop:=c<S∨(c=S∧(d<b∨(d=b∧Ca N e iL)))
def E2(P:Program)(p:dm)(Next Anch:Goroutine→World→Prop)(gs:Array Goroutine)(w:World)(T:Trace)(q:Nat→Nat)(j:Nat)(D:Nat→WD)(iL:Nat→b6)(d0:Nat)(tag:CTag)(a:Goroutine)(k:Nat)(g:Goroutine):Prop:=
 ∃g' w' Q b d c h i e f,stepG P false g w=.go g' w' Q∧w.heap.size≤w'.heap.size∧
  fj P p ((gs.map (woken P g g' w')).setIfInBounds (p.aZ+k) g') w' (T++MemOp.ofEvents (p.aZ+k) g.frame.fn g.frame.place Q) q j b d d0∧
  fh P p Next Anch c j h d0 i (woken P g g' w' a) w'∧WgAt p.ty p.Wg w' e f∧ConcN.Mode j b c e f∧OK p.N (phi p.N (Vc j D) tag+Ssum j D) (Fsum j D) iL (phi p.N (Vc j b) c+Ssum j b) (Fsum j b) d
def zO{b:TypeId}(h:WgAt b R w az sm):R<w.heap.size:=(dX.1 h).1
def fj.step(e:eL p)(f:∀g w,Anch g w→g.status=.running)(J:j≤p.N)(h:fj P p gs w T q j D iL d0)(l:fh P p Next Anch tag j V d0 U a w)(c:k<j)(m:gs[p.aZ+k]? =some g){x:WD}{t':b6}{st' sm':Int}
 (n:stepG P false g w=.go g' w' Q) (o:w.heap.size≤w'.heap.size) (r:bR p w w') (s:∀i,i<j→i≠k→dw p i w w') (t:FAA p j w')
 (u:jw P p k x.stage t' x.fuel x.deaf g' w') (y:fG p.Sh p.Wg p.Own p.bL p.aZ j w'.heap.size d0 (pS (upd D k x)) (vi (upd D k x)) (T++MemOp.ofEvents (p.aZ+k) g.frame.fn g.frame.place Q)) (z:x.stage≤6→p.kO k w')
 (A:WgAt p.ty p.Wg w' st' sm') (B:∀b,(b=tag∨(tag=.blk∧b=.w3))→(mayWake P g=true→g'.status=.running→b≠.blk)→ConcN.Mode j (upd D k x) b st' sm')
 (C:(x.stage<(D k).stage∧cnt x≤cnt (D k))∨(x.stage=(D k).stage∧(x.fuel<(D k).fuel∨(x.fuel=(D k).fuel∧b6.Below t' (iL k))))):
 E2 P p Next Anch gs w T q j D iL d0 tag a k g:=by
 obtain⟨b,E,F,H,d,I⟩:=(l.rely r).woken f g g' w';refine⟨g',w',Q,upd D k x,upd iL k t',b,E,F,st',sm',n,o,h.Xr e c m s t u y z,H,A,B b d I,?_⟩;have K:=sumTo_upd D x cnt c;have L:=sumTo_upd D x WD.stage c;have M:=sumTo_upd D x WD.fuel c;unfold OK;rw[phi_retag p.N _ d];simp only[Vc,Ssum,Fsum]at *;rcases C with⟨h1,h2⟩|⟨h1,h2⟩
 ·have:=phi_mono p.N (v':=sumTo j fun a=>cnt (upd D k x a)) (v:=sumTo j fun a=>cnt (D a)) (by omega) tag;exact .inl (by omega)
 ·have O:cnt x=cnt (D k):=by simp only[cnt,h1]
  have ev:(sumTo j fun a=>cnt (upd D k x a))=sumTo j fun a=>cnt (D a):=by omega
  rw[ev];refine .inr ⟨by omega,?_⟩;rcases h2 with h2|⟨h2,h3⟩
  ·exact .inl (by omega)
  ·exact .inr ⟨by omega,k,by omega,by rw[upd_same];exact h3,fun i hi=>upd_ne iL t' hi⟩
def E3(x:WD):pS (upd D k x) k=x.deaf:=by show(upd D k x k).deaf=_;rw[upd_same]
def E4(x:WD):∀i,i≠k→pS (upd D k x) i=pS D i:=fun i hi=>by show(upd D k x i).deaf=_;rw[upd_ne D x hi]
def E5{i:Nat}(hi:i≠k):vi (upd D k x) i↔vi D i:=by show(upd D k x i).stage≤6↔_;rw[upd_ne D x hi]
def fj.tA(b:eL p)(r:∀g w,Anch g w→g.status=.running)(s:j≤p.N)(h:fj P p gs w T q j D iL d0)(t:fh P p Next Anch tag j V d0 U a w)(e:k<j)(u:gs[p.aZ+k]? =some g)(v:WgAt p.ty p.Wg w az sm){l m:Int}
 (y:stepG P false g w=.go g' w' Q) (cB:Aside p.Wg w w') (n:WgAt p.ty p.Wg w' l m) (z:∀c∈Q,Bk p.Wg c)
 (A:∀i c,Q[i]? =some c→(MemAct.ofEvent c).touch?=none∨0<deafBehind (D k).deaf (Q.extract 0 i)) (B:jw P p k x.stage t' x.fuel x.deaf g' w') (C:deafBehind (D k).deaf Q=x.deaf) (o:(D k).stage≤6) (I:x.stage≤6)
 (E:∀d,(d=tag∨(tag=.blk∧d=.w3))→(mayWake P g=true→g'.status=.running→d≠.blk)→ConcN.Mode j (upd D k x) d l m)
 (F:(x.stage<(D k).stage∧cnt x≤cnt (D k))∨(x.stage=(D k).stage∧(x.fuel<(D k).fuel∨(x.fuel=(D k).fuel∧b6.Below t' (iL k))))):
 E2 P p Next Anch gs w T q j D iL d0 tag a k g:=by
 have f:p.live w':=⟨_,_,n⟩;refine h.step b r s t e u y (pI cB.size.symm) (.of_wg b cB f) (fun i _ _=>.of_wg b cB f) (h.lq.of_wg b cB) B ?_ (fun _=>b.pay k _ _ (.of_wg b cB f) (h.pay k e o)) n E F;rw[cB.size];refine(h.bE.book b.vh e (zO v) z A (qE:=pS (upd D k x)) (by rw[E3];exact C.symm) (E4 x)).OF fun i hi H=>?_;by_cases c:i=k
 ·subst c;exact o
 ·exact(E5 c).1 H
def Xs:∀(i:Nat) b,(#[rd (stA R),wr (stA R)]:Array Event)[i]? =some b→(MemAct.ofEvent b).touch?=none∨0<deafBehind 1 ((#[rd (stA R),wr (stA R)]:Array Event).extract 0 i)|0,_,_=>.inr (by simp[deafBehind])|1,_,_=>.inr (by simp[deafBehind,rd])|i+2,b,c=>by simp at c
def OL{c:Event}(h:0<U):∀(i:Nat) b,(#[c]:Array Event)[i]? =some b→(MemAct.ofEvent b).touch?=none∨0<deafBehind U ((#[c]:Array Event).extract 0 i)|0,_,_=>.inr (by simpa[deafBehind]using h)|i+1,b,d=>by simp at d
def Xt:∀(i:Nat) c,(semEvents (smA R))[i]? =some c→(MemAct.ofEvent c).touch?=none∨0<deafBehind 1 ((semEvents (smA R)).extract 0 i)|0,_,b=>by simp[semEvents]at b;subst b;exact .inl rfl|1,_,_=>.inr (by simp[deafBehind,semEvents])|2,_,_=>.inr (by simp[deafBehind,semEvents])|3,_,b=>by simp[semEvents]at b;subst b;exact .inl rfl|i+4,c,b=>by simp[semEvents]at b
def Cb:∀b∈#[rd (stA R),wr (stA R)],Bk R b:=by intro b c;simp at c;rcases c with rfl|rfl<;>exact bk_cell _ _ rfl
def Cc:∀b∈#[rd (stA R)],Bk R b:=by intro b c;simp at c;subst c;exact bk_cell _ _ rfl
def Xu:∀b∈#[wr (stA R)],Bk R b:=by intro b c;simp at c;subst c;exact bk_cell _ _ rfl
def IQ:∀b∈#[mk .disable],Bk R b:=by intro b c;simp at c;subst c;exact .inl rfl
def OM:∀b∈#[mk .enable],Bk R b:=by intro b c;simp at c;subst c;exact .inr (.inl rfl)
def ON:∀b∈semEvents (smA R),Bk R b:=by
 intro b c;simp[semEvents]at c;rcases c with rfl|rfl|rfl|rfl
 ·exact .inl rfl
 ·exact bk_cell _ _ rfl
 ·exact bk_cell _ _ rfl
 ·exact .inr (.inl rfl)
def fj.Xv(o:eL p)(E:∀g w,Anch g w→g.status=.running)(F:j≤p.N)(aT:j+pend tag≤p.N)(h:fj P p gs w T q j D iL d0)(H:fh P p Next Anch tag j V d0 U a w)(c:WgAt p.ty p.Wg w az sm)(S:ConcN.Mode j D tag az sm)(d:k<j)(A:gs[p.aZ+k]? =some g)(ae:g.status=.running)(aB:∀g' w' Q,stepG P false g w=.go g' w' Q→p.xq k w w'):
 E2 P p Next Anch gs w T q j D iL d0 tag a k g:=by
 obtain⟨aC,aq,r⟩:=h.wk k d;obtain rfl:g=aC:=by rw[A]at aq;exact dV aq
 have aU:=o.E0;have aW:=Vc_le j D;have same:∀ah ai,ConcN.Mode j (upd D k ⟨(D k).stage,ah,ai⟩) tag az sm:=fun ah ai=>S.same ah ai;have ar:p.live w:=⟨_,_,c⟩;generalize l:(D k).stage=aj at r;generalize ak:(D k).fuel=m at r;generalize u:(D k).deaf=Z at r;generalize au:iL k=t at r;have idle:∀{g':Goroutine} {t':b6},stepG P false g w=.go g' w #[]→jw P p k aj t' m Z g' w→b6.Below t' t→aj≤6→E2 P p Next Anch gs w T q j D iL d0 tag a k g:=fun{g' t'} e aD aE aF=>
  h.tA o E F H d A c (x:=⟨aj,m,Z⟩) (t':=t') e (.refl p.Wg w) c (by simp) (by simp) aD (by rw[u];rfl) (by omega) aF (fun B n _=>ConcN.Mode.retag (by have:=same m Z;rwa[l]at this) n) (.inr ⟨l.symm,.inr ⟨ak.symm,by rw[au];exact aE⟩⟩)
 cases r with
 |r0 r=>
  rcases oQ.cases (dw.refl k) r with⟨rfl,I⟩|⟨t',g',w',Q,J,e,aG⟩
  ·obtain⟨_,aH,g',e,af,al⟩:=I w (dw.refl k w);obtain⟨t',L⟩:=(Way.vf (letI:=p.pl;qG) al).iI;refine h.step o E F H d A (x:=⟨6,0,0⟩) (t':=t') e (aV _) (bR.refl w) (fun i _ _=>dw.refl i w) h.lq (.k1 L) ?_ (fun _=>aH) c (fun B n _=>(S.counted d (by omega) (.inl rfl) _ _).retag n) (.inl ⟨by simp only[l];omega,by simp[cnt,l]⟩);have h1:=h.bE.release o.vh d u (zO c) (fn:=g.frame.fn) (pos:=g.frame.place) (rel':=vi (upd D k ⟨6,0,0⟩)) fun i hi X=>(E5 hi).1 X;have b:pS (upd D k ⟨6,0,0⟩)=pS D:=funext fun i=>by
    by_cases b:i=k
    ·subst b;rw[E3];exact u.symm
    ·exact E4 _ i b
   rw[b];exact h1
  ·obtain⟨O,K⟩:=aG (aB _ _ _ e);refine h.step o E F H d A (x:=⟨7,0,0⟩) (t':=t') e O.size (O.Xl o) (fun i _ hi=>O.nr o hi) (h.lq.IJ o d O) (.r0 K) ?_ (fun b=>by simp only at b;omega) (st':=az) (sm':=sm) ?_
    (fun B n _=>ConcN.Mode.retag (by have:=same 0 0;rwa[l]at this) n) (.inr ⟨l.symm,.inr ⟨ak.symm,by rw[au];exact J⟩⟩)
   ·refine(h.bE.IJ o.vh d (fun b=>by have b:(D k).stage≤6:=b;omega) O.size (fun b M=>(O.evs b M).1) (qE:=pS (upd D k ⟨7,0,0⟩)) ?_ (E4 _)).OF fun i hi X=>?_
    ·rw[E3,deafBehind_still (fun b M=>(O.evs b M).2)];exact u.symm
    ·by_cases b:i=k
     ·subst b;have X:(upd D i ⟨7,0,0⟩ i).stage≤6:=X;rw[upd_same]at X;simp only at X;omega
     ·exact(E5 b).1 X
   ·exact c.of_block (O.jN _ (zO c) (fun b=>o.bN.2.1 b.symm) fun z=>by have:=o.new _ _ z;have:=o.wg;omega)
 |k1 r=>
  rcases eV.cases (letI:=p.pl;rJ) r with⟨rfl,I⟩|⟨t',g',w',Q,J,e,⟨rfl,rfl⟩,K⟩
  ·obtain⟨_,g',e,af,al⟩:=I w (letI:=p.pl;rJ w);obtain⟨t',L⟩:=(Way.vf (letI:=p.pl;qG) al).iI;exact h.tA o E F H d A c (x:=⟨5,0,1⟩) (t':=t') e (.refl p.Wg w) c IQ (fun i b M=>.inl (by have:=anR M;simp at this;subst this;rfl)) (.d1 L) (by rw[u];rfl) (by omega) (by simp)
    (fun B n _=>(S.counted d (by omega) (.inr rfl) _ _).retag n) (.inl ⟨by simp only[l];omega,by simp[cnt,l]⟩)
  ·exact idle e (.k1 K) J (by omega)
 |d1 r=>
  rcases eV.cases (letI:=p.pl;rJ) r with⟨rfl,I⟩|⟨t',g',w',Q,J,e,⟨rfl,rfl⟩,K⟩
  ·obtain⟨_,av⟩:=I w (letI:=p.pl;rJ w);have aI:cnt (D k)=1:=by simp[cnt,l]
   have aX:1≤Vc j D:=by have:=le_sumTo (f:=fun x=>cnt (D x)) d;simp only[Vc];omega
   have aw:∀q,cnt (⟨1,q,1⟩:WD)=0:=fun _=>rfl;have ax:∀q,OpenSt j D→OpenSt j (upd D k ⟨1,q,1⟩):=fun q h a C=>by
    by_cases b:a=k
    ·subst b;rw[upd_same];simp
    ·rw[upd_ne D _ b];exact h a C
   have am:∀i b,(#[rd (stA p.Wg),wr (stA p.Wg)]:Array Event)[i]? =some b→(MemAct.ofEvent b).touch?=none∨0<deafBehind (D k).deaf ((#[rd (stA p.Wg),wr (stA p.Wg)]:Array Event).extract 0 i):=by rw[u];exact Xs
   have an:deafBehind (D k).deaf #[rd (stA p.Wg),wr (stA p.Wg)]=1:=by rw[u];rfl
   cases S with
   |opn h1 h2 h3=>
    obtain⟨v,ag⟩:∃v,Vc j D+pend tag=v+1:=⟨Vc j D+pend tag-1,by omega⟩;rw[ag]at c;have ao:WgAt p.ty p.Wg w (((v:Nat)+1)*KK+((0:Nat):Int)) 0:=by simpa using c
    obtain⟨g',e,_,y⟩:=av v 0 (by omega) (by omega) ao;obtain⟨s,y⟩:=y (by omega);have ap:Vc j (upd D k ⟨1,s,1⟩)+pend tag=v:=by have:=Vc_upd D (⟨1,s,1⟩:WD) d;have:=aw s;omega
    refine h.tA o E F H d A c (x:=⟨1,s,1⟩) (t':=.leaf) e (aside_setCell w (stA p.Wg) _) (c.setSt _) Cb am (.quit y) an (by omega) (by simp) (fun B n _=>ConcN.Mode.retag (tag:=tag) ?_ n) (.inl ⟨by simp only[l];omega,by simp[cnt]⟩);have b:(v:Int)*KK+((0:Nat):Int)=((Vc j (upd D k ⟨1,s,1⟩)+pend tag:Nat):Int)*KK:=by rw[ap];simp
    rw[b];exact .opn h1 (ax s h2) (fun vs ev=>by have:=h3 vs ev;omega)
   |reg h1 h2 h3=>
    obtain⟨v,ag⟩:∃v,Vc j D=v+1:=⟨Vc j D-1,by omega⟩;rw[ag]at c;have ao:WgAt p.ty p.Wg w (((v:Nat)+1)*KK+((1:Nat):Int)) 0:=by simpa using c
    obtain⟨g',e,ar,y⟩:=av v 1 (by omega) (by omega) ao;by_cases aJ:v=0
    ·subst aJ;obtain⟨af,aa⟩:=ar ⟨rfl,rfl⟩;obtain⟨t',L⟩:=(Way.vf (letI:=p.pl;qG) aa).iI;refine h.tA o E F H d A c (x:=⟨4,0,1⟩) (t':=t') e (aside_setCell w (stA p.Wg) _) (c.setSt _) Cb am (.d2 L) an (by omega) (by simp) (fun B n _=>ConcN.Mode.retag (tag:=tag) ?_ n) (.inl ⟨by simp only[l];omega,by simp[cnt]⟩);have Y:∀a,a<j→a≠k→(D a).stage=1:=fun a C b=>by
      have ay:=others_uncounted d ag aI a C b;have:=h2 a C;simp only[cnt]at ay;split at ay<;>omega
     have:=ConcN.Mode.last (j:=j) (D:=upd D k ⟨4,0,1⟩) (tag:=tag) k h1 d (by rw[upd_same];simp) (fun a C b=>by rw[upd_ne D _ b];exact Y a C b);rw[upd_same]at this;simpa using this
    ·obtain⟨s,y⟩:=y (by omega);have ap:Vc j (upd D k ⟨1,s,1⟩)=v:=by have:=Vc_upd D (⟨1,s,1⟩:WD) d;have:=aw s;omega
     refine h.tA o E F H d A c (x:=⟨1,s,1⟩) (t':=.leaf) e (aside_setCell w (stA p.Wg) _) (c.setSt _) Cb am (.quit y) an (by omega) (by simp) (fun B n _=>ConcN.Mode.retag (tag:=tag) ?_ n) (.inl ⟨by simp only[l];omega,by simp[cnt]⟩);have b:(v:Int)*KK+((1:Nat):Int)=((Vc j (upd D k ⟨1,s,1⟩):Nat):Int)*KK+1:=by rw[ap];simp
     rw[b];exact .reg h1 (ax s h2) (by omega)
   |last aK _ h2 h3 h4=>
    by_cases b:k=aK
    ·subst b;omega
    ·have:=h4 k d b;omega
   |sema h2=>have:=h2 k d;omega
   |fin _ h2=>have:=h2 k d;omega
  ·exact idle e (.d1 K) J (by omega)
 |d2 r=>
  rcases eV.cases (letI:=p.pl;rJ) r with⟨rfl,I⟩|⟨t',g',w',Q,J,e,⟨rfl,rfl⟩,K⟩
  ·obtain⟨_,ab⟩:=I w (letI:=p.pl;rJ w);obtain⟨ad,Y,rfl,rfl⟩:=S.isLast d (by omega);simp only[l]at c;obtain⟨g',e,af,aa⟩:=ab (by simpa using c);obtain⟨t',L⟩:=(Way.vf (letI:=p.pl;qG) aa).iI;refine h.tA o E F H d A c (x:=⟨3,0,1⟩) (t':=t') e (.refl p.Wg w) c Cc (by rw[u];exact OL (by omega)) (.d3 L) (by rw[u];rfl) (by omega) (by simp) (fun B n _=>ConcN.Mode.retag (tag:=tag) ?_ n) (.inl ⟨by simp only[l];omega,by simp[cnt]⟩);have:=ConcN.Mode.last (j:=j) (D:=upd D k ⟨3,0,1⟩) (tag:=tag) k ad d (by rw[upd_same];simp) (fun a C b=>by rw[upd_ne D _ b];exact Y a C b);rw[upd_same]at this;simpa using this
  ·exact idle e (.d2 K) J (by omega)
 |d3 r=>
  rcases eV.cases (letI:=p.pl;rJ) r with⟨rfl,I⟩|⟨t',g',w',Q,J,e,⟨rfl,rfl⟩,K⟩
  ·obtain⟨_,ab⟩:=I w (letI:=p.pl;rJ w);obtain⟨ad,Y,rfl,rfl⟩:=S.isLast d (by omega);simp only[l]at c;obtain⟨g',e,af,aa⟩:=ab (by simpa using c);obtain⟨t',L⟩:=(Way.vf (letI:=p.pl;qG) aa).iI;refine h.tA o E F H d A c (x:=⟨2,0,1⟩) (t':=t') e (aside_setCell w (stA p.Wg) _) (c.setSt 0) Xu (by rw[u];exact OL (by omega)) (.d4 L) (by rw[u];rfl) (by omega) (by simp) (fun B n _=>ConcN.Mode.retag (tag:=tag) ?_ n) (.inl ⟨by simp only[l];omega,by simp[cnt]⟩);have:=ConcN.Mode.last (j:=j) (D:=upd D k ⟨2,0,1⟩) (tag:=tag) k ad d (by rw[upd_same];simp) (fun a C b=>by rw[upd_ne D _ b];exact Y a C b);rw[upd_same]at this;simpa using this
  ·exact idle e (.d3 K) J (by omega)
 |d4 r=>
  rcases eV.cases (letI:=p.pl;rJ) r with⟨rfl,I⟩|⟨t',g',w',Q,J,e,⟨rfl,rfl⟩,K⟩
  ·obtain⟨_,aL,ab⟩:=I w (letI:=p.pl;rJ w);obtain⟨ad,Y,rfl,rfl⟩:=S.isLast d (by omega);simp only[l]at c;obtain⟨g',e,s,y⟩:=ab (by simpa using c);have aM:g'.status=.running:=by
    cases s with
    |zero=>exact absurd y.2 (by decide)|succ q=>exact y.elim (fun x=>absurd x.2 (by decide)) (fun x=>x.1)
   refine h.tA o E F H d A c (x:=⟨1,s,1⟩) (t':=.leaf) e (aside_setCell w (smA p.Wg) _) (c.setSm 1) ON (by rw[u];exact Xt) (.quit y) (by rw[u];simp[deafBehind,semEvents]) (by omega) (by simp) (fun B n aN=>?_) (.inl ⟨by simp only[l];omega,by simp[cnt]⟩);have aO:=aN aL aM;have aP:B=.w3:=by
    rcases n with rfl|⟨_,rfl⟩
    ·cases B<;>first|rfl|exact ad.elim|exact absurd rfl aO
    ·rfl
   subst aP;simp only[l,g6];exact .sema fun a C=>by
    by_cases b:a=k
    ·subst b;rw[upd_same]
    ·rw[upd_ne D _ b];exact Y a C b
  ·exact idle e (.d4 K) J (by omega)
 |quit r=>
  cases m with
  |zero=>rw[r.1]at ae;cases ae
  |succ m=>
   rcases r with⟨aQ,_⟩|⟨_,g',Q,aA,aR,y⟩
   ·rw[aQ]at ae;cases ae
   ·have aS:∀b∈Q,Bk p.Wg b:=fun b M=>Go.ConcR.bk_of_mute (aA b M);exact h.tA o E F H d A c (x:=⟨1,m,deafBehind Z Q⟩) (t':=.leaf) (aR w) (.refl p.Wg w) c aS (fun i b M=>.inl (touch_mute (aA b (anR M)))) (.quit y) (by rw[u]) (by omega) (by simp)
     (fun B n _=>ConcN.Mode.retag (by have:=same m (deafBehind Z Q);rwa[l]at this) n) (.inr ⟨l.symm,.inl (by simp only[ak];omega)⟩)
end
end
section
open Conc
open Go.ConcR (KK WgAt stA smA rd wr mk DC0 Payload Bk)
open Go.ConcN (WgLive CTag WD phi Vc Ssum Fsum cnt pend OpenSt AllQuit isOpen isW3 isFin sumTo upd sumTo_upd upd_ne upd_same Vc_le allQuit_of)
variable{a':Goroutine}{S:b6}{U:CTag}
section
variable{P:Program}{p:dm}{Next Anch:Goroutine→World→Prop}{j k:Nat}{w w' Y:World}
variable{V:Array Goroutine}{T:Trace}{q:Nat→Nat}{D:Nat→WD}{W:Nat→b6}{Q X:Nat}{R:b6}{tag:CTag}{a g g':Goroutine}{es:Array Event}{az sm:Int}
def fj.gy(b:eL p)(h:fj P p V w T q j D W Q)(e:w.heap.size≤w'.heap.size)(c:∀i,i<j→dw p i w w')(f:FAA p j w')(l:∀m∈es,Ev0 p.Wg p.bL w'.heap.size m):
 fj P p ((V.map (woken P a a' w')).setIfInBounds 0 a') w' (T++MemOp.ofEvents 0 a.frame.fn a.frame.place es) q j D W (deafBehind Q es):=by
 have s:=b.aZ;refine⟨by simpa using h.size,fun i hi=>?_,h.rY.own (.inl rfl) (by rw[h.size];omega) _ _ _,h.bE.main b.vh e l,fun i hi n=>b.pay i _ _ (c i hi) (h.pay i hi n),f⟩;obtain⟨o,r,d⟩:=h.wk i hi;refine⟨o,?_,d.rely b (c i hi)⟩;rw[tw (by omega),r,ig,d.woken]
def E6(N b:Nat)(tag:CTag)(R:b6)(X:Nat)(U:CTag)(S:b6)(c:Nat):Prop:=phi N b U<phi N b tag∨(phi N b U=phi N b tag∧(b6.Below S R∨(S=R∧c<X)))
def E7(P:Program)(p:dm)(Next Anch:Goroutine→World→Prop)(V:Array Goroutine)(w:World)(T:Trace)(q:Nat→Nat)(j:Nat)(D:Nat→WD)(W:Nat→b6)(Q:Nat)(tag:CTag)(R:b6)(X:Nat)(a:Goroutine):Prop:=
 ∃a' w' es U S b c d e,stepG P true a w=.go a' w' es∧w.heap.size≤w'.heap.size∧fj P p ((V.map (woken P a a' w')).setIfInBounds 0 a') w' (T++MemOp.ofEvents 0 a.frame.fn a.frame.place es) q j D W c∧
  fh P p Next Anch U j S c b a' w'∧WgAt p.ty p.Wg w' d e∧ConcN.Mode j D U d e∧E6 p.N (Vc j D) tag R X U S b
def Xw(P:Program)(p:dm)(Next Anch:Goroutine→World→Prop)(V:Array Goroutine)(w:World)(T:Trace)(q:Nat→Nat)(j:Nat)(D:Nat→WD)(W:Nat→b6)(Q:Nat)(tag:CTag)(R:b6)(X:Nat)(a:Goroutine):Prop:=
 E7 P p Next Anch V w T q j D W Q tag R X a∨
 (∃a' child r,stepG P true a w=.spawn a' child w #[]∧tag=.sp r 2∧r<p.N∧j=p.N-(r+1)∧Q=0∧child.status=.running∧(dw p j p.cG w→Works P p j child w)∧oR P p Anch r a' w)∨
 ∃a',stepG P true a w=.go a' w #[mk (.acquire (stA p.Wg))]∧j=p.N∧Q=0∧AllQuit j D∧((∀k,k<p.N→p.kO k w)→Next a' w)
def Xx{B:Nat}(d:p.Wg<B){b:Event}(h:Bk p.Wg b):Ev0 p.Wg p.bL B b:=⟨fun e c=>.inl ⟨(IG h c).1,by rw[(IG h c).2];simp⟩,OD h _,OE h d⟩
def fj.idle(e:eL p)(h:fj P p V w T q j D W Q)(l:WgAt p.ty p.Wg w az sm)(u:ConcN.Mode j D tag az sm)(m:fh P p Next Anch U j S Q 1 a' w')(n:ConcN.Mode j D U az sm)(o:stepG P true a w=.go a' w' es)(r:zJ p w w' es)(s:E6 p.N (Vc j D) tag R X U S 1):
 E7 P p Next Anch V w T q j D W Q tag R X a:=by
 obtain⟨⟨d,rfl⟩,f⟩:=r;have t:deafBehind Q es=Q:=deafBehind_still (fun b c=>(f b c).2) Q;have h1:=h.gy (a:=a) (a':=a') e (w':=w.at d) (aV _) (fun i _=>dw.at i w d) (h.at e d).lq fun b c=>(f b c).1;rw[t]at h1;exact⟨a',_,es,U,S,1,Q,az,sm,o,aV _,h1,m,l,n,s⟩
def fj.book0(b:eL p)(h:fj P p V w T q j D W Q)(m:WgAt p.ty p.Wg w az sm){c:Nat}{d e:Int}(n:stepG P true a w=.go a' w' es)(cB:Aside p.Wg w w')(l:WgAt p.ty p.Wg w' d e)(o:∀f∈es,Bk p.Wg f)
 (r:fh P p Next Anch U j S (deafBehind Q es) c a' w') (s:ConcN.Mode j D U d e) (t:E6 p.N (Vc j D) tag R X U S c):E7 P p Next Anch V w T q j D W Q tag R X a:=by
 have u:p.live w':=⟨_,_,l⟩;exact⟨a',w',es,U,S,c,_,d,e,n,pI cB.size.symm,h.gy b (pI cB.size.symm) (fun i _=>.of_wg b cB u) (h.lq.of_wg b cB) (fun f v=>Xx (by rw[cB.size];exact zO m) (o f v)),r,l,s,t⟩
def fj.w1(d:eL p)(h:fj P p V w T q p.N D W 1)(c:WgAt p.ty p.Wg w az sm)(i:ConcN.Mode p.N D .w1 az sm)(o:ConcN.Mode p.N D tag az sm){t:b6}(r:nw P p (qF P p Next Anch) t a w)(b:phi p.N (Vc p.N D) .w1<phi p.N (Vc p.N D) tag∨(tag=.w1∧R=t)):
 E7 P p Next Anch V w T q p.N D W 1 tag R X a:=by
 have C:=d.E0;have E:=Vc_le p.N D;rcases eV.cases bR.refl r with⟨rfl,s⟩|⟨n,g',w',es,u,e,v,x⟩
 ·obtain⟨_,y⟩:=s w (bR.refl w);obtain⟨z,rfl,rfl,_⟩:=i.open_inv trivial;obtain⟨a',e,A,B⟩:=y (Vc p.N D) (by omega) (by simpa[pend]using c);by_cases f:Vc p.N D=0
  ·obtain⟨n,l⟩:=(A f).iI;refine h.book0 d c e (.refl p.Wg w) c Cc (.ke (Anch:=Anch) l) ?_ (.inl ?_)
   ·have m:((Vc p.N D+pend .w1:Nat):Int)*KK=0:=by rw[f];simp[pend]
    rw[m];exact .fin trivial (allQuit_of z f)
   ·rcases b with b|⟨rfl,_⟩<;>simp only[phi]at *<;>omega
  ·obtain⟨n,l⟩:=(B f).iI;refine h.book0 d c e (.refl p.Wg w) c Cc (.w2 l) (i.reopen trivial trivial rfl fun vs m=>by cases m;omega) (.inl ?_);rcases b with b|⟨rfl,_⟩<;>simp only[phi]at *<;>omega
 ·refine h.idle d c o (.w1 x) i e v ?_;rcases b with b|⟨rfl,rfl⟩
  ·exact .inl b
  ·exact .inr ⟨rfl,.inl u⟩
def fj.main(f:eL p)(ab:∀g w,Anch g w→g.status=.running)(B:∀g w,Anch g w→fH P p (qF P p Next Anch) g w)(h:fj P p V w T q j D W Q)(e:fh P p Next Anch tag j R Q X a w)(b:WgAt p.ty p.Wg w az sm)(d:ConcN.Mode j D tag az sm)(C:a.status=.running):
 Xw P p Next Anch V w T q j D W Q tag R X a:=by
 have ad:=f.E0;have ae:=Vc_le j D;have same:∀{S:b6},b6.Below S R→E6 p.N (Vc j D) tag R X tag S 1:=fun E=>.inr ⟨rfl,.inl E⟩;cases e with
 |skd u e=>
  rcases eV.cases bR.refl e with⟨rfl,i⟩|⟨o,g',w',es,l,c,m,n⟩
  ·obtain⟨_,a',c,s⟩:=i w (bR.refl w);obtain⟨o,t⟩:=s.iI;exact .inl (h.book0 f b c (.refl p.Wg w) b IQ (.sa1 u t) (d.reopen trivial trivial rfl (by simp)) (.inl (by simp only[phi];omega)))
  ·exact .inl (h.idle f b d (.skd u n) d c m (same l))
 |sa1 u e=>
  rename_i r;rcases eV.cases bR.refl e with⟨rfl,i⟩|⟨o,g',w',es,l,c,m,n⟩
  ·obtain⟨_,y⟩:=i w (bR.refl w);obtain⟨z,rfl,rfl,_⟩:=d.open_inv trivial;obtain⟨a',c,s⟩:=y (Vc (p.N-(r+1)) D) (by omega) (by simpa[pend]using b);obtain⟨o,t⟩:=s.iI;refine .inl (h.book0 f b c (aside_setCell w (stA p.Wg) _) (b.setSt _) Cb (.ske u t) ?_ (.inl (by simp only[phi];omega)));have x:(((Vc (p.N-(r+1)) D:Nat):Int)+1)*KK=((Vc (p.N-(r+1)) D+pend (.sp r 3):Nat):Int)*KK:=by simp[pend]
   rw[x];exact .opn trivial z (by simp)
  ·exact .inl (h.idle f b d (.sa1 u n) d c m (same l))
 |ske u e=>
  rcases eV.cases bR.refl e with⟨rfl,i⟩|⟨o,g',w',es,l,c,m,n⟩
  ·obtain⟨_,a',c,s⟩:=i w (bR.refl w);obtain⟨o,t⟩:=s.iI;exact .inl (h.book0 f b c (.refl p.Wg w) b OM (.sgo u t) (d.reopen trivial trivial rfl (by simp)) (.inl (by simp only[phi];omega)))
  ·exact .inl (h.idle f b d (.ske u n) d c m (same l))
 |sgo u e=>
  rename_i r;rcases eV.cases bR.refl e with⟨rfl,i⟩|⟨o,g',w',es,l,c,m,n⟩
  ·obtain⟨_,a',child,F,H,I,J⟩:=i w (bR.refl w);exact .inr (.inl ⟨a',child,r,F,rfl,u,rfl,rfl,H,I,J⟩)
  ·exact .inl (h.idle f b d (.sgo u n) d c m (same l))
 |kd e=>
  rcases eV.cases bR.refl e with⟨rfl,i⟩|⟨o,g',w',es,l,c,m,n⟩
  ·obtain⟨_,a',c,s⟩:=i w (bR.refl w);obtain⟨o,t⟩:=s.iI;exact .inl (h.book0 f b c (.refl p.Wg w) b IQ (.anch t) (d.reopen trivial trivial rfl (by simp)) (.inl (by simp only[phi];omega)))
  ·exact .inl (h.idle f b d (.kd n) d c m (same l))
 |anch e=>
  rcases eV.cases bR.refl e with⟨rfl,i⟩|⟨o,g',w',es,l,c,m,n⟩
  ·obtain⟨o,t⟩:=(B a w (i w (bR.refl w))).iI;exact .inl (h.w1 f b (d.reopen trivial trivial rfl (by simp)) d t (.inl (by simp only[phi];omega)))
  ·exact .inl (h.idle f b d (.anch n) d c m (same l))
 |w1 e=>exact .inl (h.w1 f b d d e (.inr ⟨rfl,rfl⟩))|w2 e=>
  rename_i vs;rcases eV.cases bR.refl e with⟨rfl,i⟩|⟨o,g',w',es,l,c,m,n⟩
  ·obtain⟨_,y⟩:=i w (bR.refl w);obtain⟨z,rfl,rfl,K⟩:=d.open_inv trivial;obtain⟨af,h1⟩:=K vs rfl;obtain⟨L,M⟩:=y (Vc p.N D) (by omega) (by simpa[pend]using b);by_cases x:Vc p.N D=vs
   ·obtain⟨a',c,s⟩:=L x;obtain⟨o,t⟩:=s.iI;exact .inl (h.book0 f b c (aside_setCell w (stA p.Wg) _) (b.setSt _) Cb (.w3 (Anch:=Anch) t) (.reg trivial z (by omega)) (.inl (by simp only[phi];omega)))
   ·obtain⟨a',c,s⟩:=M x;obtain⟨o,t⟩:=s.iI;exact .inl (h.book0 f b c (.refl p.Wg w) b Cc (.anch t) (d.reopen trivial trivial rfl (by simp)) (.inl (by simp only[phi];omega)))
  ·exact .inl (h.idle f b d (.w2 n) d c m (same l))
 |w3 e=>
  rcases eV.cases bR.refl e with⟨rfl,i⟩|⟨o,g',w',es,l,c,m,n⟩
  ·obtain⟨_,ag,A,O⟩:=i w (bR.refl w);cases d with
   |opn h1 _ _=>exact h1.elim|reg h1 h2 h3=>exact .inl (h.book0 f b (A ⟨_,b⟩) (.refl p.Wg w) b (by simp) (.blk (Anch:=Anch) i) (.reg trivial h2 h3) (.inr ⟨rfl,.inr ⟨rfl,by omega⟩⟩))|last Z h1 h2 h3 h4=>exact .inl (h.book0 f b (A ⟨_,b⟩) (.refl p.Wg w) b (by simp) (.blk (Anch:=Anch) i) (.last Z trivial h2 h3 h4) (.inr ⟨rfl,.inr ⟨rfl,by omega⟩⟩))|sema h2=>
    obtain⟨a',c,s⟩:=O b;obtain⟨o,t⟩:=s.iI;exact .inl (h.book0 f b c (aside_setCell w (smA p.Wg) _) (b.setSm 0) ON (.w4 (Anch:=Anch) (by simpa[deafBehind,semEvents]using t)) (.fin trivial h2) (.inl (by simp only[phi];omega)))
   |fin h1 _=>exact h1.elim
  ·exact .inl (h.idle f b d (.w3 n) d c m (same l))
 |blk e=>simp at C|w4 e=>
  rcases eV.cases bR.refl e with⟨rfl,i⟩|⟨o,g',w',es,l,c,m,n⟩
  ·obtain⟨_,aa⟩:=i w (bR.refl w);obtain⟨v,rfl,rfl⟩:=d.fin_inv trivial;obtain⟨a',c,s⟩:=aa b;obtain⟨o,t⟩:=s.iI;exact .inl (h.book0 f b c (.refl p.Wg w) b Cc (.ke (Anch:=Anch) t) (.fin trivial v) (.inl (by simp only[phi];omega)))
  ·exact .inl (h.idle f b d (.w4 n) d c m (same l))
 |ke e=>
  rcases eV.cases bR.refl e with⟨rfl,i⟩|⟨o,g',w',es,l,c,m,n⟩
  ·obtain⟨_,a',c,s⟩:=i w (bR.refl w);obtain⟨v,rfl,rfl⟩:=d.fin_inv trivial;obtain⟨o,t⟩:=s.iI;exact .inl (h.book0 f b c (.refl p.Wg w) b OM (.acq (Anch:=Anch) t) (.fin trivial v) (.inl (by simp only[phi];omega)))
  ·exact .inl (h.idle f b d (.ke n) d c m (same l))
 |acq e=>
  rcases eV.cases bR.refl e with⟨rfl,i⟩|⟨o,g',w',es,l,c,m,n⟩
  ·obtain⟨_,a',c,s⟩:=i w (bR.refl w);obtain⟨v,rfl,rfl⟩:=d.fin_inv trivial;exact .inr (.inr ⟨a',c,rfl,rfl,v,s⟩)
  ·exact .inl (h.idle f b d (.acq n) d c m (same l))
end
end
section
open Conc
open Go.ConcX (stA smA OfWg WgAt KK rd wr mk RCa RCd KCa DC0)
open Go.ConcN (sumTo upd sumTo_upd upd_ne upd_same)
def mQ(P:Program)(cv:Machine)(F:FuncId)(c:Nat):Prop:=
 cv.world.heap.size≤c∧∃j m a,runN P j cv=.next m∧runN P (j+1) cv=.next a∧c<a.world.heap.size∧(∀i,i≤j→∀b,runN P i cv=.next b→b.world.heap.size≤c)∧∃g,m.gs[0]? =some g∧g.frame.fn=F
structure iw(P:Program)(cv:Machine)(F:FuncId)(Sh:Loc→Prop)(gs:Array Goroutine)(g:Goroutine)(w:World)(sl:Option (Nat×Nat))(T:Trace)(q:Nat→Nat):Prop where
 run:∃J,qH P cv J (crowd gs w sl) T
 h0:gs[0]? =some g
 nx:Leavers P T gs q
 vj:Past Sh w.heap.size T
 oS:∀l,Sh l→∃a,l=.cell a∧a.block<w.heap.size∧mQ P cv F a.block
def xy(P:Program)(cv:Machine)(F:FuncId)(g:Goroutine)(w:World):Prop:=∃Sh gs sl T q,iw P cv F Sh gs g w sl T q
@[reducible] def iM(P:Program) (cv:Machine) (F:FuncId):aG where
 main:=true
 plain f:=f≠F
 mine c:=¬mQ P cv F c
 rd _ _:=False
 jump b g w a:=xy P cv F g w→∃g' w',xy P cv F g' w'∧a g' w'
section
variable{P:Program}{cv:Machine}{F:FuncId}{Sh:Loc→Prop}{gs:Array Goroutine}{g:Goroutine}{w:World}{sl:Option (Nat×Nat)}{T:Trace}{q:Nat→Nat}
def Cd{J:Nat}{M:Machine}(h:runNT P J cv #[]=(.next M,T)):runN P J cv=.next M:=by
 have:=runNT_fst P J cv #[];rw[h]at this;exact this.symm
def OO{J:Nat}{M b:Machine}{p:Array MemOp}(f:qH P cv J M T)(r:stepT P M=(.next b,p))(l:M.gs[0]? =some g){c:Nat}(h1:M.world.heap.size≤c)(h2:c<b.world.heap.size):mQ P cv F c↔g.frame.fn=F:=by
 have n:=Cd f.run;have o:=Cd (E1 f.run r);have up:∀i,i≤J→∀d,runN P i cv=.next d→d.world.heap.size≤c:=fun i hi d e=>by
  obtain⟨m,a,v⟩:=f.up i hi;rw[e]at a;cases a;omega
 constructor
 ·rintro⟨_,j,m,s,a,t,x,u,d,e,k⟩;rcases wV j J with h|rfl|h
  ·have:=up (j+1) h s t;omega
  ·rw[n]at a;cases a;rw[l]at e;cases e;exact k
  ·have:=u (J+1) h b o;omega
 ·intro k;exact⟨up 0 (j0 _) cv rfl,J,M,b,n,o,h2,up,g,l,k⟩
def Past.Xy{Sh:Loc→Prop}{B a:Nat}{t:Trace}(h:Past Sh B t)(cR:B≤a){fn:FuncId}{c:String}{b:Array Event}(d:∀e∈b,EvL Sh a e):Past Sh a (t++MemOp.ofEvents 0 fn c b):=(h.mono cR).own d
def iw.step(h:iw P cv F Sh gs g w sl T q){b:Nat}{d:Option (Nat×Nat)}(k:stepT P (crowd gs w sl)=runT P (crowd gs (w.at b) d) 0){g':Goroutine}{w':World}{e:Array Event}
 (o:stepG P true g (w.at b)=.go g' w' e) (f:w.heap.size≤w'.heap.size) (p:∀j∈e,EvL Sh w'.heap.size j):
 iw P cv F Sh ((gs.map (woken P g g' w')).setIfInBounds 0 g') g' w' d (T++MemOp.ofEvents 0 g.frame.fn g.frame.place e) q∧∀c,w.heap.size≤c→c<w'.heap.size→(mQ P cv F c↔g.frame.fn=F):=by
 obtain⟨J,m⟩:=h.run;have n:=runT_crowd_go (P:=P) (sl:=d) (i:=0) h.h0 (show stepG P (0==0) g (w.at b)=_ from o);exact⟨⟨⟨J+1,m.step (k.trans n) f⟩,zI h.h0,((mN.of h.nx).own (.inl rfl) (dX.1 h.h0).1 _ _ _).to,Past.Xy h.vj f p,fun l r=>let⟨a,j,x,s⟩:=h.oS l r;⟨a,j,dN x f,s⟩⟩,fun c h1 h2=>OO m (k.trans n) h.h0 h1 h2⟩
def iw.slip(h:iw P cv F Sh gs g w sl T q)(f:g.status=.running){i a:Nat}{b:Option (Nat×Nat)}(j:0<i){c:Goroutine}(hi:gs[i]? =some c)(l:c.status=.running)
 (m:stepT P (crowd gs w sl)=runT P (crowd gs (w.at a) b) i):
 ∃d n e,iw P cv F Sh d g (w.at a) b n e∧sumTo d.size e<sumTo gs.size q:=by
 obtain⟨g',x,k,o,p,r,s⟩:=(mN.of h.nx).slip j id hi l;have t:(i==0)=false:=by simp;omega
 have u:=runT_crowd_go (P:=P) (sl:=b) (i:=i) hi (by rw[t];exact p (w.at a));obtain⟨J,v⟩:=h.run;refine⟨_,_,upd q i k,⟨⟨J+1,v.step (m.trans u) (aV _)⟩,by rw[tw (by omega),h.h0,ig,woken_run f],(s _ _ _).to,h.vj.mute (by omega) o,h.oS⟩,?_⟩;simpa using IL (q:=q) (dX.1 hi).1 r
def E8 [aG]{w a:World}(h:AtRel w a):eK w a:=by
 obtain⟨d,rfl⟩:=h;exact⟨rfl,rfl,rfl,aV _,fun _ _ _=>rfl,fun _ _ _ _=>rfl⟩
def Xz{n:Nat}(d:∀l,Sh l→∃a,l=.cell a∧a.block<n∧mQ P cv F a.block){B:Nat}{b:Event}(h:@EB (iM P cv F) B b):EvL Sh B b:=by
 rcases h with⟨a,wr,rfl,c,cR⟩|⟨m,rfl,c⟩
 ·refine evL_cell a wr (fun e=>?_) cR;obtain⟨j,b,_,f⟩:=d _ e;cases b;rcases c.2 with h|⟨_,h,_⟩
  ·exact h.1 f
  ·exact h
 ·refine⟨fun k i=>?_,?_,?_,?_⟩<;>cases c
  ·cases i
  ·simp
  ·simp
  ·trivial
def along{m:lp}(D:∀g w,m g w→g.status=.running)(h:@de (iM P cv F) P m g w)(a:xy P cv F g w):
 ∃Sh gs g' w' sl T q b e,iw P cv F Sh gs g' w' sl T q∧stepT P (crowd gs w' sl)=runT P (crowd gs (w'.at b) e) 0∧m g' (w'.at b):=by
 letI:=iM P cv F;have E:∀d,AtRel w d→∀n Sh gs sl T q,sumTo gs.size q=n→iw P cv F Sh gs g d sl T q→
  ∃Sh gs g' w' sl T q b e,iw P cv F Sh gs g' w' sl T q∧stepT P (crowd gs w' sl)=runT P (crowd gs (w'.at b) e) 0∧m g' (w'.at b):=by
  clear a
  induction h with
  |@stop g w H=>
   intro d f n
   induction n using Nat.strongRecOn generalizing d with
   |_ n t=>
    intro Sh gs sl T q z a;have A:∀b,m g (d.at b):=fun b=>H _ (E8 (mP _ _ _ f ⟨b,rfl⟩));have j:=D _ _ (A 0);obtain⟨i,I,b,e,hi,u,l⟩:=crowd_pick (P:=P) (w:=d) (sl:=sl) (IN a.h0 j a.nx) ⟨0,g,a.h0,j⟩;rcases qx i with rfl|v
    ·exact⟨Sh,gs,g,d,sl,T,q,b,e,a,l,A b⟩
    ·obtain⟨o,p,r,k,K⟩:=a.slip j v hi u l;exact t _ (by omega) (d.at b) (mP _ _ _ f ⟨b,rfl⟩) Sh o e p r rfl k
  |@step g w j L M _ x=>
   intro d f n
   induction n using Nat.strongRecOn generalizing d with
   |_ n t=>
    intro Sh gs sl T q z a;obtain⟨i,I,b,e,hi,u,l⟩:=crowd_pick (P:=P) (w:=d) (sl:=sl) (IN a.h0 j a.nx) ⟨0,g,a.h0,j⟩;rcases qx i with rfl|v
    ·have B:=E8 (mP _ _ _ f ⟨b,rfl⟩:AtRel w (d.at b));obtain⟨g',w',N,⟨y,_⟩,s⟩:=M _ B;obtain⟨J,O⟩:=a.run;have Q:=runT_crowd_go (P:=P) (sl:=e) (i:=0) a.h0 (show stepG P (0==0) g (d.at b)=_ from y);have C:lm (d.at b) w':=fun c h1 h2=>⟨fun R=>L ((OO O (l.trans Q) a.h0 h1 h2).1 R),id⟩;have s:=s C;obtain⟨k,_⟩:=a.step l y s.size (fun S U=>Xz a.oS (s.evs S U));exact x _ g' w' N B y C w' (AtRel.refl w') _ Sh _ e _ q rfl k
    ·obtain⟨o,p,r,k,K⟩:=a.slip j v hi u l;exact t _ (by omega) (d.at b) (mP _ _ _ f ⟨b,rfl⟩) Sh o e p r rfl k
  |@jump g w Y V _ x=>
   intro d f n Sh gs sl T q z a;obtain⟨g',w',⟨W,o,e,p,r,k⟩,X⟩:=V d (E8 f) ⟨Sh,gs,sl,T,q,a⟩;exact x d g' w' (E8 f) X w' (AtRel.refl w') _ W o e p r rfl k
 obtain⟨Sh,gs,sl,T,q,a⟩:=a;exact E w (AtRel.refl w) _ Sh gs sl T q rfl a
def OP(P:Program)(b:Value→World→Prop)(g:Goroutine)(w:World):Prop:=g.status=.running∧∃v a,stepG P true g w=.ended (.done v) w a∧a=#[]∧b v w
def ends{l:Value→World→Prop}(h:@de (iM P cv F) P (OP P l) g w)(a:xy P cv F g w):
 ∃N last d w' n,runNT P (N+1) cv #[]=(.ended d w',n)∧runN P N cv=.next last∧step P last=.ended d w'∧Good P l last d w' n:=by
 obtain⟨Sh,gs,g',w',sl,T,q,e,r,a,s,C,v,D,t,rfl,u⟩:=along (fun _ _ b=>b.1) h a;obtain⟨J,o⟩:=a.run;have x:=runT_many_ended (P:=P) (sl:=r) (i:=0) a.h0 (show stepG P (0==0) g' (w'.at e)=_ from t);have y:=Cd o.run;have p:=s.trans x;have z:MemOp.ofEvents 0 g'.frame.fn g'.frame.place #[]=#[]:=by simp[MemOp.ofEvents]
 refine⟨J,crowd gs w' sl,.done v,w'.at e,T,?_,y,by simp[step,p],v,rfl,u,a.vj.clean,a.vj.over,⟨fun b f=>?_,rfl⟩,fun j b f k=>?_⟩
 ·have:∀{J:Nat} {m:Machine} {c:Trace},runNT P J m c=(.next (crowd gs w' sl),T)→runNT P (J+1) m c=(.ended (.done v) (w'.at e),T):=by
   intro J
   induction J with
   |zero=>
    intro m c h;simp only[runNT,aO,Stepped.next.injEq]at h;obtain⟨rfl,rfl⟩:=h;simp[runNT,p,z]
   |succ J A=>
    intro m c h;rw[runNT]at h⊢;split at h
    ·exact A h
    ·rename_i B _;cases h;exact(B _ rfl).elim
  exact this o.run
 ·obtain⟨j,k⟩:=List.mem_iff_getElem?.1 f;rw[s8]at k;exact⟨_,(a.nx.old (1+j) b (by omega) (by simpa[crowd]using k)).leaves⟩
 ·exact⟨q j,(a.nx.old j b (by omega) f).hears _⟩
def xy.first(g:Goroutine)(w:World):xy P (solo g w) F g w:=
 ⟨fun _=>False,#[g],none,#[],fun _=>0,⟨0,.nil _ _⟩,rfl,leavers_one P g,past_nil.mono (j0 _),fun _ a=>a.elim⟩
end
end
section
open Conc
open Go.ConcR (KK WgAt stA smA rd wr mk DC0 Payload Bk)
open Go.ConcN (WgLive CTag WD phi Vc Ssum Fsum cnt pend OpenSt AllQuit isOpen isW3 isFin sumTo upd sumTo_upd upd_ne upd_same Vc_le allQuit_of sumTo_le sumTo_upd_out)
def OQ(P:Program)(M:Machine)(i:Nat):Prop:=∃(g:Goroutine) (d:Nat) (b:Option (Nat×Nat)),M.gs[i]? =some g∧g.status=.running∧stepT P M=runT P (crowd M.gs (M.world.at d) b) i
open Classical in
def E9(P:Program)(M:Machine):Nat:=if h:∃i,OQ P M i then h.choose else 0
def XA{P:Program}{Q:Array Goroutine}{w:World}{sl:Option (Nat×Nat)}(e:∀g∈Q,awake g)(f:∃(i:Nat) (g:Goroutine),Q[i]? =some g∧g.status=.running):
 ∃(i:Nat) (g:Goroutine) (d:Nat) (b:Option (Nat×Nat)),E9 P (crowd Q w sl)=i∧Q[i]? =some g∧g.status=.running∧stepT P (crowd Q w sl)=runT P (crowd Q (w.at d) b) i:=by
 have c:∃i,OQ P (crowd Q w sl) i:=by
  obtain⟨i,g,d,b,h1,h2,h3⟩:=crowd_pick (P:=P) (w:=w) (sl:=sl) e f;exact⟨i,g,d,b,h1,h2,h3⟩
 obtain⟨g,d,b,h1,h2,h3⟩:=c.choose_spec;exact⟨_,g,d,b,by unfold E9;rw[dif_pos c],h1,h2,h3⟩
def zP(P:Program)(R:Machine)(i c:Nat):Prop:=
 ∃J M b,runN P J R=.next M∧runN P (J+1) R=.next b∧c<b.world.heap.size∧(∀j,j≤J→∀d,runN P j R=.next d→d.world.heap.size≤c)∧E9 P M=i
def XB{P:Program}{R:Machine}{i b c:Nat}(h:zP P R i c)(f:zP P R b c):i=b:=by
 obtain⟨J,M,t,l,m,u,n,o⟩:=h;obtain⟨d,v,x,e,cr,y,r,s⟩:=f;rcases wV J d with h|rfl|h
 ·have:=r (J+1) h _ m;omega
 ·rw[l]at e;cases e;exact o.symm.trans s
 ·have:=n (d+1) h _ cr;omega
def XC{P:Program}{R:Machine}{J:Nat}{M b:Machine}{T:Trace}{f:Array MemOp}(d:qH P R J M T)(h:stepT P M=(.next b,f)){c:Nat}(h1:M.world.heap.size≤c)(h2:c<b.world.heap.size):zP P R (E9 P M) c:=
 ⟨J,M,b,Cd d.run,Cd (E1 d.run h),h2,fun j i n l=>by
  obtain⟨m,e,o⟩:=d.up j i;rw[l]at e;cases e;omega,rfl⟩
section
variable{P:Program}{R:Machine}{p:dm}{Next Anch:Goroutine→World→Prop}{j k:Nat}{w w' Y:World}
variable{Q:Array Goroutine}{T:Trace}{q:Nat→Nat}{D:Nat→WD}{U:Nat→b6}{V W:Nat}{X:b6}{tag:CTag}{a g g':Goroutine}{S:Array Event}{az sm:Int}
def fh.bound(h:fh P p Next Anch tag j X V W a w):j+pend tag≤p.N:=by
 cases h<;>simp only[pend]<;>(try simp)<;>omega
def jw.quits{b m d:Nat}{t:b6}(h:jw P p k b t m d g w)(c:b=1):QuitsD P m d g:=by
 cases h<;>first|(exact absurd c (by decide))|assumption
def fj.runs(h:fj P p Q w T q j D U V)(m:∀g w,Anch g w→g.status=.running)(n:Q[0]? =some a)(o:fh P p Next Anch tag j X V W a w)(r:ConcN.Mode j D tag az sm):∃(i:Nat) (g:Goroutine),Q[i]? =some g∧g.status=.running:=by
 rcases o.status m with⟨_,s,_⟩|⟨_,_,rfl⟩
 ·exact⟨0,a,n,s⟩
 ·have e:∀k,k<j→(D k).stage≠1→∃(i:Nat) (g:Goroutine),Q[i]? =some g∧g.status=.running:=fun k b d=>by
   obtain⟨g,t,u⟩:=h.wk k b;exact⟨_,g,t,u.status.2 d⟩
  cases r with
  |opn h1 _ _=>exact h1.elim|reg _ h2 h3=>
   by_cases l:∃k,k<j∧(D k).stage≠1
   ·obtain⟨k,b,d⟩:=l;exact e k b d
   ·have:=sumTo_le (f:=fun i=>cnt (D i)) (c:=0) (j:=j) fun i hi=>by
     have:(D i).stage=1:=Classical.byContradiction fun v=>l ⟨i,hi,v⟩;simp[cnt,this]
    simp only[Vc]at h3;omega
  |last x _ h2 h3 _=>exact e x h2 (by omega)|fin h1 _=>exact h1.elim
def fj.slip(c:eL p)(v:∀g w,Anch g w→g.status=.running)(h:fj P p Q w T q j D U V){i:Nat}(d:0<i)(hi:i<p.aZ)(e:Q[i]? =some g)(f:g.status=.running):
 ∃g' S n,stepG P false g w=.go g' w S∧q i=n+1∧fj P p ((Q.map (woken P g g' w)).setIfInBounds i g') w (T++MemOp.ofEvents i g.frame.fn g.frame.place S) (upd q i n) j D U V:=by
 obtain⟨g',S,n,l,m,o,r⟩:=h.rY.slip d (by omega) e f;refine⟨g',S,n,m w,o,by simpa using h.size,fun k s=>?_,r _ _ _,h.bE.mute c.vh (by omega) (fun k _=>by omega) l,h.pay,h.lq⟩;obtain⟨t,u,b⟩:=h.wk k s;refine⟨t,?_,b⟩;rw[tw (by omega),u,ig,b.woken]
def fj.spawn(f:eL p)(h:fj P p Q w T q j D U 0)(r:p.live w){a' child:Goroutine}(s:dw p j p.cG w→Works P p j child w){x y:MemOp}(l:x.g=0∧x.act=.go Q.size)(d:y.g=Q.size∧y.act=.start):
 ∃t,fj P p ((Q.setIfInBounds 0 a').push child) w (T++#[x,y]) q (j+1) (upd D j ⟨7,0,0⟩) (upd U j t) 0:=by
 obtain⟨t,u⟩:=(s (h.lq.nr f r (aV _))).iI;have B:=f.aZ;have c:=h.size;have v:Deaf T (p.aZ+j)=0:=by rw[←c];exact h.rY.above _ (aV _)
 have m:∀i,Deaf (T++#[x,y]) i=Deaf T i:=fun i=>by
  have b:T++#[x,y]=(T++#[x])++#[y]:=by apply j3;simp
  rw[b,Deaf_push,Deaf_push];simp[deafStep,l.2,d.2]
 refine⟨t,by simp[c];omega,fun i hi=>?_,⟨fun i g hi n o=>?_,fun i hi=>?_⟩,h.bE.fork f.vh v (by rw[←c];exact l) (by rw[←c];exact d) (E3 ⟨7,0,0⟩) (E4 _) (fun b=>?_) (fun i hi z=>(E5 hi).1 z),fun i hi e=>?_,h.lq.succ⟩
 ·by_cases b:i=j
  ·subst b;rw[upd_same,upd_same];refine⟨child,?_,.r0 u⟩;rw[←c,Bd];simp
  ·obtain⟨y,d,A⟩:=h.wk i (by omega);rw[upd_ne D _ b,upd_ne U _ b];refine⟨y,?_,A⟩;rw[V1 (by simp[c];omega),←dP,Ec (by omega)];exact d
 ·have C:i<p.aZ:=Nat.lt_of_not_le n;rw[m];rw[V1 (by simp[c];omega),←dP,Ec (by omega)]at o;exact h.rY.old i g hi n o
 ·rw[m];exact h.rY.above i (by simp at hi;omega)
 ·have b:(upd D j ⟨7,0,0⟩ j).stage≤6:=b;rw[upd_same]at b;simp only at b;omega
 ·by_cases b:i=j
  ·subst b;rw[upd_same]at e;simp only at e;omega
  ·rw[upd_ne D _ b]at e;exact h.pay i (by omega) e
def XD(P:Program)(R:Machine)(p:dm)(Next:Goroutine→World→Prop):Prop:=∃(J:Nat) (Q:Array Goroutine) (a:Goroutine) (w:World) (sl:Option (Nat×Nat)) (T:Trace) (q:Nat→Nat),qH P R J (crowd Q w sl) T∧Q.size=p.aZ+p.N∧Q[0]? =some a∧Leavers P T Q q∧
 Past (fun l=>p.Sh l∨pR p.Wg l) w.heap.size T∧Next a w∧(∀k,k<p.N→p.kO k w)∧FAA p p.N w
def XE(P:Program)(R:Machine)(p:dm)(Next Anch:Goroutine→World→Prop)(b:IP):Prop:=
 ∃(J:Nat) (Q:Array Goroutine) (a:Goroutine) (w:World) (sl:Option (Nat×Nat)) (T:Trace) (q:Nat→Nat) (j:Nat) (D:Nat→WD) (U:Nat→b6) (tag:CTag) (X:b6) (V W:Nat) (az sm:Int),qH P R J (crowd Q w sl) T∧Q[0]? =some a∧fj P p Q w T q j D U V∧
  fh P p Next Anch tag j X V W a w∧WgAt p.ty p.Wg w az sm∧ConcN.Mode j D tag az sm∧b=(phi p.N (Vc j D) tag+Ssum j D,sumTo Q.size q+Fsum j D,U,X,W)
def crowd_runs(u:eL p)(aI:∀k c,k<p.N→p.cG.heap.size≤c→zP P R (p.aZ+k) c→p.mO k c)(C:∀g w,Anch g w→g.status=.running)(aJ:∀g w,Anch g w→fH P p (qF P p Next Anch) g w):∀ae,XE P R p Next Anch ae→XD P R p Next:=by
 intro ae
 induction ae using(Xq p.N).induction with
 |_ ae K=>
  rintro⟨J,Q,a,w,sl,T,q,j,D,U,tag,X,V,W,az,sm,E,v,h,af,z,L,rfl⟩;have aX:=u.aZ;have aK:=af.bound;have aL:∀g∈Q,Conc.awake g:=by
   intro g A;obtain⟨i,hi,rfl⟩:=anQ.1 A;have ag:Q[i]? =some Q[i]:=dP hi;rcases qx i with rfl|aj
   ·rw[v]at ag;rw[←dV ag];exact awake_of ((af.status C).elim (fun x=>.inl x.2.1) fun x=>.inr (.inl x.2.1))
   ·rcases cu i p.aZ with b|aM
    ·exact awake_of ((h.rY.old i _ aj (by omega) ag).status.elim .inl fun x=>.inr (.inr x))
    ·obtain⟨g,A,M⟩:=h.wk (i-p.aZ) (by have:=h.size;omega);rw[show p.aZ+(i-p.aZ)=i by omega,ag]at A;rw[dV A];exact awake_of (M.status.1.elim .inl fun x=>.inr (.inr x))
  obtain⟨i,x,e,f,aN,hi,O,F⟩:=XA (P:=P) (w:=w) (sl:=sl) aL (h.runs C v af L);have m:=h.at u e;have ak:=af.rely (bR.at w e);rcases qx i with rfl|aj
  ·obtain rfl:x=a:=by rw[v]at hi;exact(dV hi).symm
   rcases m.main u C aJ ak z L O with⟨a',w',S,o,Z,aa,aO,al,am,s,an,d,ab,M,ao,b⟩|⟨a',child,r,aP,rfl,aY,rfl,rfl,a0,ap,ah⟩|⟨a',s,rfl,rfl,ad,ah⟩
   ·have l:=runT_crowd_go (P:=P) (sl:=f) (i:=0) hi (show stepG P (0==0) x (w.at e)=_ from s);refine K _ ?_ ⟨J+1,_,a',w',f,_,q,j,D,U,o,Z,aO,aa,al,am,E.step (F.trans l) an,zI v,d,ab,M,ao,rfl⟩;rcases b with b|⟨B,b⟩
    ·exact .left _ _ (by omega)
    ·rw[B];have S:((Q.map (woken P x a' w')).setIfInBounds 0 a').size=Q.size:=by simp
     rw[S];refine .right _ (.right _ (.right _ ?_));rcases b with b|⟨rfl,b⟩
     ·exact .left _ _ b
     ·exact .right _ b
   ·have l:=runT_crowd_spawn (P:=P) (sl:=f) (i:=0) hi (show stepG P (0==0) x (w.at e)=_ from aP);have aQ:∀aq ar:MemOp,((MemOp.ofEvents 0 x.frame.fn x.frame.place #[]).push aq).push ar=#[aq,ar]:=fun aq ar=>by simp[MemOp.ofEvents]
    have au:=E.step (F.trans l) (aV _);rw[aQ]at au;obtain⟨aR,rfl,rfl,_⟩:=L.open_inv trivial;obtain⟨t,d⟩:=m.spawn u ⟨_,_,z⟩ (a':=a') ap (x:={g:=0,fn:=x.frame.fn,pos:=x.frame.place,act:=.go Q.size}) (y:={g:=Q.size,fn:=child.frame.fn,pos:=x.frame.place,act:=.start}) ⟨rfl,rfl⟩ ⟨rfl,rfl⟩;have av:Vc (p.N-(r+1)+1) (upd D (p.N-(r+1)) ⟨7,0,0⟩)=Vc (p.N-(r+1)) D+1:=by
     simp only[Vc,sumTo,upd_same];rw[sumTo_upd_out D _ cnt (aV _)];rfl
    have aD:Ssum (p.N-(r+1)+1) (upd D (p.N-(r+1)) ⟨7,0,0⟩)=Ssum (p.N-(r+1)) D+7:=by
     simp only[Ssum,sumTo,upd_same];rw[sumTo_upd_out D _ WD.stage (aV _)]
    have ai:OpenSt (p.N-(r+1)+1) (upd D (p.N-(r+1)) ⟨7,0,0⟩):=fun i hi=>by
     by_cases H:i=p.N-(r+1)
     ·subst H;rw[upd_same];simp
     ·rw[upd_ne D _ H];exact aR i (by omega)
    have aE:((Q.setIfInBounds 0 a').push child)[0]? =some a':=by
     have:=(dX.1 v).1;rw[V1 (by simpa using this),←dP];simp[this]
    have aS:p.N-(r+1)+1=p.N-r:=by omega
    rw[aS]at d av aD ai;have aw:∀o,pend o=0→((Vc (p.N-(r+1)) D+pend (.sp r 2):Nat):Int)*KK=((Vc (p.N-r) (upd D (p.N-(r+1)) ⟨7,0,0⟩)+pend o:Nat):Int)*KK:=fun o aT=>by rw[av,aT];simp[pend]
    cases r with
    |zero=>
     simp only[gE]at d av aD ai aw;obtain⟨ax,ay⟩:=Way.iI ah;refine K _ ?_ ⟨J+1,_,a',w.at e,f,_,q,p.N,_,_,.kd,ax,0,1,_,_,au,aE,d,.kd ay,z,?_,rfl⟩
     ·exact .left _ _ (by simp only[phi];omega)
     ·rw[aw .kd rfl];exact .opn trivial ai (by simp)
    |succ aA=>
     obtain⟨ax,ay⟩:=Way.iI ah;refine K _ ?_ ⟨J+1,_,a',w.at e,f,_,q,p.N-(aA+1),_,_,.sp aA 5,ax,0,1,_,_,au,aE,d,.skd (by omega) ay,z,?_,rfl⟩
     ·exact .left _ _ (by simp only[phi];omega)
     ·rw[aw (.sp aA 5) rfl];exact .opn trivial ai (by simp)
   ·have l:=runT_crowd_go (P:=P) (sl:=f) (i:=0) hi (show stepG P (0==0) x (w.at e)=_ from s);have d:=m.gy (a:=x) (a':=a') (es:=#[mk (.acquire (stA p.Wg))]) u (w':=w.at e) (aV _) (fun i _=>dw.refl i _) m.lq (fun H B=>by
     simp at B;subst B;exact⟨fun x O=>(by cases O),by simp[anP],zO z⟩)
    have aF:∀k,k<p.N→p.kO k (w.at e):=fun k I=>m.pay k I (by rw[ad k I];omega);refine⟨J+1,_,a',w.at e,f,_,fun i=>if i<p.aZ then q i else(D (i-p.aZ)).fuel,E.step (F.trans l) (aV _),d.size,zI v,⟨fun i g hi A=>?_,d.rY.above⟩,m.bE.acquire u.vh (zO z) fun k I=>by show(D k).stage≤6;rw[ad k I];omega,ah aF,aF,m.lq⟩;by_cases H:i<p.aZ
    ·simp only[H,g6];exact d.rY.old i g hi (by omega) A
    ·simp only[H,ee];have b:i-p.aZ<p.N:=by have:=(dX.1 A).1;rw[d.size]at this;omega
     obtain⟨y,aB,ap⟩:=d.wk (i-p.aZ) b;have aG:=d.bE.deafW (i-p.aZ) b;rw[show p.aZ+(i-p.aZ)=i by omega]at aB aG;rw[A]at aB;obtain rfl:=dV aB;rw[aG];exact ap.quits (ad _ b)
  ·have aC:(i==0)=false:=by simp;omega
   rcases cu i p.aZ with b|aM
   ·obtain⟨g',S,n,s,ad,d⟩:=m.slip u C aj b hi O;have l:=runT_crowd_go (P:=P) (sl:=f) (i:=i) hi (by rw[aC];exact s);obtain⟨o,Z,aa,ab,aH,_⟩:=ak.woken C x g' (w.at e);refine K _ ?_ ⟨J+1,_,woken P x g' (w.at e) a,w.at e,f,_,upd q i n,j,D,U,o,Z,V,aa,az,sm,E.step (F.trans l) (aV _),by rw[tw (by omega),v];rfl,d,ab,z,L.retag aH,rfl⟩;rw[Go.ConcN.phi_retag p.N _ aH];have S:((Q.map (woken P x g' (w.at e))).setIfInBounds i g').size=Q.size:=by simp
    rw[S];have:=IL (q:=q) (dX.1 hi).1 ad;exact .right _ (.left _ _ (by omega))
   ·obtain⟨k,rfl⟩:∃k,i=p.aZ+k:=⟨i-p.aZ,by omega⟩;have I:k<j:=by have:=(dX.1 hi).1;rw[h.size]at this;omega
    obtain⟨g',w',S,aU,aW,o,Z,aa,al,am,s,an,d,ab,M,ao,b⟩:=m.Xv u C (by omega) aK ak z L I hi O fun g' w' S s c h1 h2=>by
     have l:=runT_crowd_go (P:=P) (sl:=f) (i:=p.aZ+k) hi (by rw[aC];exact s);have:=XC E (F.trans l) h1 h2;rw[aN]at this;exact aI k c (by omega) (ga h.lq.size h1) this
    have l:=runT_crowd_go (P:=P) (sl:=f) (i:=p.aZ+k) hi (by rw[aC];exact s);refine K _ ?_ ⟨J+1,_,woken P x g' w' a,w',f,_,q,j,aU,aW,o,Z,V,aa,al,am,E.step (F.trans l) an,by rw[tw (by omega),v];rfl,d,ab,M,ao,rfl⟩;have S:((Q.map (woken P x g' w')).setIfInBounds (p.aZ+k) g').size=Q.size:=by simp
    rw[S];rcases b with b|⟨B,b⟩
    ·exact .left _ _ b
    ·rw[B];rcases b with b|⟨B,b⟩
     ·exact .right _ (.left _ _ (by omega))
     ·rw[B];exact .right _ (.right _ (.left _ _ b))
end
end
section
open Conc
open Go.ConcR (KK WgAt stA smA rd wr mk DC0 Payload Bk)
@[reducible] def dm.co(p:dm) (k:Nat) (f:Nat→Bool→Bool):aG where
 main:=false
 plain _:=True
 mine c:=c=p.bN∨p.mO k c
 rd c _:=p.mM c
 jump _ _ _ _:=False
 shr c:=c=p.bN
 lim:=f
structure Ce(p:dm)(k:Nat)(f:Nat→Bool→Bool):Prop where
 wr:∀o,f o true=true→p.cY k o
 rd:∀o,f o false=true→p.cY k o∨p.iJ o
section
variable{P:Program}{p:dm}{k:Nat}{f:Nat→Bool→Bool}{w w' R v Q v':World}{S:Array Event}
def OR(n:eL p)(j:Ce p k f)(h:@fe (p.co k f) w v)(l:p.bN<v.heap.size)(e:dw p k v Q):∃R,@eK (p.co k f) w R∧@fe (p.co k f) R Q:=by
 letI:=p.co k f;obtain⟨d,m⟩:∃d,w.heap[p.bN]? =some d:=⟨_,dP (by rw[←h.size];exact l)⟩;have i:∀c,(Q.heap.setIfInBounds p.bN d)[c]? =if c=p.bN then some d else Q.heap[c]? :=fun c=>by
  by_cases a:c=p.bN
  ·subst a;rw[ax rfl,Array.getElem?_setIfInBounds_self_of_lt (dN l e.size)]
  ·rw[ak a,Ec (fC a)]
 have hold:∀c,c<w.heap.size→c≠p.bN→p.mO k c∨p.mM c→Q.heap[c]? =w.heap[c]? :=fun c b o g=>(e.own c (by rw[h.size];exact b) g).trans (h.same c o);refine⟨{Q with heap:=Q.heap.setIfInBounds p.bN d},⟨e.os.trans h.os,e.tape.trans h.tape,e.output.trans h.output,?_,fun c b g=>?_,fun c q b g=>?_⟩,⟨rfl,rfl,rfl,rfl,?_,fun c b=>?_,fun c b=>?_⟩⟩
 ·show w.heap.size≤(Q.heap.setIfInBounds p.bN d).size;rw[anS,←h.size];exact e.size
 ·show(Q.heap.setIfInBounds p.bN d)[c]? =_;rw[i];split
  ·rename_i a;rw[a];exact m.symm
  ·rename_i a;exact hold c b a (.inl (g.resolve_left a))
 ·have a:c≠p.bN:=(n.eD _ g).2.2.1;unfold World.cell?;simp only;rw[i,ak a,hold c b a (.inr g)]
 ·show Q.heap.size=(Q.heap.setIfInBounds p.bN d).size;rw[anS]
 ·show Q.heap[c]? =(Q.heap.setIfInBounds p.bN d)[c]?;have b:¬c=p.bN:=b;rw[i,ak b]
 ·have a:c=p.bN:=b;subst a
  show oN _ (Q.heap.setIfInBounds p.bN d)[p.bN]? Q.heap[p.bN]?;rw[i,ax rfl,←m];refine(h.shr _ rfl).trans ?_;rcases e.bN with a|⟨vs,us,t,bx,r,s,u,x⟩
  ·exact .inl a
  ·exact .inr ⟨vs,us,t,bx,r,s,u,fun q y=>x q (y.elim (j.rd q) fun z=>.inl (j.wr q z))⟩
def XF(e:Ce p k f){B:Nat}{b:Event}(h:@EB (p.co k f) B b):II p.Wg p.Own p.bL k B b∧b.loc≠.mark .disable∧b.loc≠.mark .enable:=by
 rcases h with⟨a,wr,rfl,d,cR⟩|⟨m,rfl,d⟩
 ·refine⟨⟨fun g c=>?_,by rw[yZ];simp,by rw[yZ];exact cR⟩,by simp,by simp⟩;rw[yZ]at c;simp only[MemAct.touch?,aD]at c;subst c;refine .inl ⟨rfl,?_⟩;rcases d.2 with⟨h1,h2⟩|⟨rfl,h1,h2⟩
  ·by_cases b:a.block=p.bN
   ·cases wr with
    |true=>exact .inl ⟨a,rfl,.inr ⟨b,e.wr _ (h2 b)⟩⟩|false=>
     rcases e.rd _ (h2 b)with h|h
     ·exact .inl ⟨a,rfl,.inr ⟨b,h⟩⟩
     ·exact .inr ⟨⟨a,rfl,.inr ⟨b,h⟩⟩,rfl⟩
   ·exact .inl ⟨a,rfl,.inl (h1.resolve_left b)⟩
  ·exact .inr ⟨⟨a,rfl,.inl h1⟩,rfl⟩
 ·refine⟨⟨fun g c=>?_,?_,?_⟩,?_,?_⟩<;>cases d
  ·cases c
  ·simp[MemAct.ofEvent]
  ·trivial
  ·simp
  ·simp
def XG(i:eL p)(g:Ce p k f)(a:@fe (p.co k f) R Q)(y:p.cG.heap.size≤Q.heap.size)(c:@fe (p.co k f) w' v')(j:@nu (p.co k f) Q v')(h:@rU (p.co k f) R w' S):jP p k Q v' S:=by
 letI:=p.co k f;have A:=i.bN.1;refine⟨c.os.trans (h.os.trans a.os.symm),c.tape.trans (h.tape.trans a.tape.symm),c.output.trans (h.output.trans a.output.symm),by rw[a.size,c.size];exact h.size,fun b l d m=>?_,?_,fun e n=>?_⟩
 ·rw[c.same b d,a.same b d];exact h.jN b (by rw[←a.size];exact l) fun z=>z.elim d m
 ·have:=j p.bN (by omega) rfl;rcases this with e|⟨vs,us,t,bx,o,r,s,u⟩
  ·exact .inl e
  ·exact .inr ⟨vs,us,t,bx,o,r,s,fun q x=>u q fun z=>x (g.wr q z)⟩
 ·have:=XF g (h.evs e n);rw[←c.size]at this;exact this
def gF.XH(j:eL p)(r:Ce p k f){s ID:lp}{g:Goroutine}(h:@de (p.co k f) P s g w)(A:∀g w v,s g w→@fe (p.co k f) w v→p.cG.heap.size≤v.heap.size→gF P false (dw p k) (p.xq k) (jP p k) ID g v):
 ∀v,@fe (p.co k f) w v→p.cG.heap.size≤v.heap.size→gF P false (dw p k) (p.xq k) (jP p k) ID g v:=by
 letI:=p.co k f;have K:=j.bN.1
 induction h with
 |stop h=>exact fun v l m=>A _ _ _ (h _ (eK.refl _)) l m|@step g w m _ h _ B=>
  intro v l t;have u:∀Q,dw p k v Q→∃R g' w' v' S,eK w R∧stepG P false g R=.go g' w' S∧stepG P false g Q=.go g' v' S∧fe w' v'∧Q.heap.size≤v'.heap.size∧(p.xq k Q v'→lm R w'∧jP p k Q v' S):=fun Q a=>by
   obtain⟨R,h1,h2⟩:=OR j r l (by omega) a;obtain⟨g',w',S,⟨n,C⟩,D⟩:=h R h1;obtain⟨v',b,d,E,o⟩:=C Q h2;refine⟨R,g',w',v',S,h1,n,b,d,o,fun e=>?_⟩;have x:lm R w':=fun c y z=>by
    rw[←h2.size]at y;rw[←d.size]at z;have F:=e c y z;refine⟨.inr F,fun i=>?_⟩;have i:c=p.bN:=i;have:=a.size;omega
   exact⟨x,XG j r h2 (ga t a.size) d E (D x)⟩
  refine .step m (fun Q a=>?_) fun Q H I J a i e=>?_
  ·obtain⟨R,g',w',v',S,_,_,b,_,_,q⟩:=u Q a;exact⟨g',v',S,b,fun e=>(q e).2⟩
  ·obtain⟨R,g',w',v',S,h1,n,b,d,o,q⟩:=u Q a;rw[i]at b;cases b;exact B R H w' J h1 n (q e).1 I d (ga t (ga a.size o))
 |@jump g w L h _ _=>exact(h w (eK.refl w)).elim
end
end
section
open Conc Conc.Lib RowKit
open Go.ConcR (KK WgAt stA smA rd wr mk DC0 Payload Bk)
open Go.ConcR.Gen Go.ConcN.Gen
open Go.ConcN (WgLive st_flag st_waiters)
section
variable{P:Program}{p:dm}{R:Goroutine→World→Prop}{n:Nat}{g:Goroutine}{w:World}
def XI:zJ p w w #[]:=⟨⟨w.drawn,rfl⟩,fun b a=>by simp at a⟩
def iy(h:Goes P true (bR p) DC0 R n g w):fH P p R g w:=
 Way.OB (fun _ _ h=>h) (fun _ _ _ ⟨h1,h2⟩=>by subst h1 h2;exact XI) (Way.vf bR.aH h)
def OS(h:Goes P true (bR p) DC0 (fun g w=>g.status=.running∧∀a,bR p w a→∃g' b,stepG P true g a=.go g' a #[b]∧(Ev0 p.Wg p.bL a.heap.size b∧b.loc≠.mark .disable∧b.loc≠.mark .enable)∧fH P p R g' a) n g w):fH P p R g w:=
 Way.trans bR.refl bR.aH (iy h) fun g w ⟨d,h⟩=>.one d fun a e=>by
  obtain⟨g',b,h1,h2,h3⟩:=h a e;exact⟨g',a,#[b],h1,⟨⟨a.drawn,rfl⟩,fun f c=>by rw[anT]at c;subst c;exact h2⟩,h3⟩
def OT{m:Mark}{a:Addr}(h:a.block=p.Wg)(cR:p.Wg<w.heap.size)(c:m=.read a∨m=.write a):Ev0 p.Wg p.bL w.heap.size ⟨.mark m,false,true⟩∧(⟨.mark m,false,true⟩:Event).loc≠.mark .disable∧(⟨.mark m,false,true⟩:Event).loc≠.mark .enable:=by
 rcases c with rfl|rfl<;>exact⟨⟨fun d b=>by simp only[MemAct.ofEvent,MemAct.touch?,aD]at b;subst b;exact .inl ⟨⟨_,rfl,h⟩,by simp⟩,by simp[MemAct.ofEvent],by show a.block<_;omega⟩,by simp,by simp⟩
def OU(h:p.live w):p.Wg<w.heap.size:=let⟨_,_,a⟩:=h;(dX.1 a).1
end
variable{L:WgLink}{P:Program}{p:dm}{Q:World→Prop}{Next:Goroutine→World→Prop}{j:Nat}{b₀:Frame}{a₀:Act}{ops₀:Array Oper}{i₀:Nat}{rest₀:List Nat}{k₀:List Item}{cs:List Frame}
def XJ(H:WgLib P L)(q:eL p)(m:∀w w',bR p w w'→Q w→Q w')(s:∀w,Q w→p.live w→fH P p (IM P p Next j) (G (b₀.at (a₀.put ((ops₀[i₀]?).bind (·.dst)) (.tuple #[])) (.inRegion ops₀ rest₀::k₀)) cs) w)(w:World)(a:Q w∧p.live w):
 fH P p (EZ P p Next j) (G ((base L.add).at ⟨#[.pointer (some ⟨p.Wg,0,none⟩),.int .i64 1]++Array.replicate 115 undef,[]⟩ [.code (body_add L)]) (b₀.at a₀ (.inRegion ops₀ (i₀::rest₀)::k₀)::cs)) w:=by
 lib_facts
 simp only[body_add,addFn,ij,Array.replicate,List.replicate,Bg,nh,jK];have b:∀{w l},Q w∧p.live w→bR p w l→Q l∧p.live l:=fun h r=>⟨m _ _ r h.1,r.live h.2⟩;refine iy (n:=30) ?_
 u_c stepG_seq b a
 u_cond true b a
 u_c stepG_seq b a
 u_c stepG_seq b a
 u_reg b a
 iterate 2 (u_op b a)
 u_c stepG_region_end b a
 u_cond false b a
 u_c stepG_skip b a
 u_c stepG_seq b a
 u_reg b a
 refine Goes.stop (fun l t=>?_);replace a:=b a t;clear t;refine⟨rfl,_,stepG_mark0 .disable (by simp) rfl rfl (by k_ne) rfl H.f_disable (x_disable_n L) (x_disable_b L) (x_disable_x L) (x_disable_f L),iy (n:=60) ?_⟩
 walk_nrm
 u_c stepG_region_end b a
 u_reg b a
 u_defer b a
 u_c stepG_region_end b a
 u_c stepG_seq b a
 u_reg b a
 u_op b a
 u_c stepG_region_end b a
 u_c stepG_seq b a
 u_c stepG_seq b a
 u_reg b a
 u_bub b a
 u_c stepG_region_end b a
 u_cond false b a
 u_c stepG_skip b a
 u_c stepG_seq b a
 u_reg b a
 iterate 6 (u_op b a)
 u_call H.f_uAdd (nm_uAdd L) uAddFn b a
 u_c stepG_seq b a
 u_reg b a
 u_op b a
 u_c stepG_region_end b a
 u_c stepG_seq b a
 u_reg b a
 iterate 4 (u_op b a)
 refine Goes.stop (fun e u=>?_);replace a:=b a u;clear u;refine⟨rfl,fun v E d=>?_⟩;rcases qx v with rfl|F
 ·
   replace d:WgAt p.ty p.Wg e 0 0:=by simpa using d
   have z:(((0:Nat):Int)+1)*KK=KK:=by simp
   rw[z];have B:IntKind.u64.wrap (0+4294967296)=KK:=by decide
   refine⟨_,(stepG_add_atomic rfl rfl (by k_ne) rfl H.f_addU64 (x_addU64_n L) (x_addU64_b L) (x_addU64_x L) .u64 (x_addU64_f L) rfl rfl d.cellSt (d.thaw 0)).trans (by rw[B];rfl),OS (n:=110) ?_⟩;replace a:Q (e.setCell (stA p.Wg) (.int .u64 KK))∧p.live (e.setCell (stA p.Wg) (.int .u64 KK)):=⟨m _ _ (.of_wg q (aside_setCell e (stA p.Wg) _) ⟨_,_,d.setSt _⟩) a.1,⟨_,_,d.setSt _⟩⟩;clear d;simp only[KK]at a⊢
   walk_nrm
   u_op b a
   u_c stepG_region_end b a
   u_c stepG_ret' b a
   u_leave1 H.f_uAdd b a
   u_op b a
   u_c stepG_region_end b a
   u_c stepG_seq b a
   u_c stepG_seq b a
   u_reg b a
   iterate 4 (u_op b a)
   iterate 2 (u_skip b a)
   u_op b a
   u_c stepG_region_end b a
   u_cond false b a
   u_c stepG_skip b a
   u_c stepG_seq b a
   u_reg b a
   iterate 4 (u_op b a)
   u_c stepG_region_end b a
   u_c stepG_seq b a
   u_reg b a
   iterate 4 (u_op b a)
   u_c stepG_region_end b a
   u_c stepG_seq b a
   u_c stepG_seq b a
   u_reg b a
   iterate 10 (u_op b a)
   u_c stepG_region_end b a
   u_cond true b a
   u_reg b a
   iterate 3 (u_op b a)
   u_conv H.underlying_tPU32 H.room_tU32 (WgLive.cell1 a.2).choose_spec b a
   refine Goes.stop (fun I x=>⟨rfl,fun J y=>?_⟩);replace a:=b (b a x) y;clear x y;refine⟨_,_,stepG_markAt .read (by simp) rfl rfl (by k_ne) rfl H.f_raceRead (x_raceRead_n L) (x_raceRead_b L) (x_raceRead_x L) (x_raceRead_f L) (ad:=⟨p.Wg,1,none⟩) (by simp[Act.eval]),OT rfl (OU a.2) (.inl rfl),iy (n:=80) ?_⟩
   walk_nrm
   u_c stepG_region_end b a
   u_c stepG_seq b a
   u_c stepG_seq b a
   u_reg b a
   iterate 2 (u_op b a)
   u_c stepG_region_end b a
   u_cond false b a
   u_c stepG_skip b a
   u_c stepG_seq b a
   u_c stepG_seq b a
   u_reg b a
   iterate 3 (u_op b a)
   iterate 2 (u_skip b a)
   iterate 2 (u_op b a)
   iterate 4 (u_skip b a)
   u_op b a
   u_c stepG_region_end b a
   u_cond false b a
   u_c stepG_skip b a
   u_c stepG_seq b a
   u_c stepG_seq b a
   u_reg b a
   iterate 3 (u_op b a)
   iterate 2 (u_skip b a)
   u_op b a
   u_c stepG_region_end b a
   u_cond true b a
   u_c stepG_ret' b a
   refine Goes.stop (fun C i=>?_);replace a:=b a i;clear i;refine⟨rfl,_,stepG_unwind_entry (v:=.tuple #[]) (evs:=#[mk .enable]) rfl H.f_enable (x_enable_n L) (x_enable_b L) (x_enable_x L) (x_enable_f L) (by simp[Extern.Race.none_]) (by simp[mk]) (by simp[mk]),?_⟩;refine Way.trans bR.refl bR.aH (Stop:=fun g w=>g=(G (b₀.at (a₀.put ((ops₀[i₀]?).bind (·.dst)) (.tuple #[])) (.inRegion ops₀ rest₀::k₀)) cs)∧Q w∧p.live w) (iy (n:=3) ?_) (fun g w h=>by obtain⟨rfl,h⟩:=h;exact s w h.1 h.2)
   u_leave0 H.f_add b a
   exact Goes.stop fun D o=>⟨rfl,b a o⟩
 ·
   obtain⟨c,k⟩:∃c:Int,c=(v:Int)+1:=⟨_,rfl⟩;obtain⟨S,f⟩:∃S:Int,S=c*KK:=⟨_,rfl⟩;have A:IntKind.u64.wrap ((v:Int)*KK+4294967296)=S:=by rw[IntKind.wrap_u64,f,k];simp only[KK];omega
   rw[←k,←f];have K:S/4294967296=c:=by rw[f];simp only[KK];omega
   have M:bits .and .u64 S 2147483648=0:=by rw[f,k];have:=st_flag (v+1) 0 (by omega) (by omega);simpa[KK]using this
   have cr:bits .and .u64 S 2147483647=0:=by rw[f,k];have:=st_waiters (v+1) 0 (by omega) (by omega);simpa[KK]using this
   have N:IntKind.i32.wrap c=c:=by rw[IntKind.wrap_i32];omega
   have O:1<c:=by omega
   have T:(c==1)=false:=by simp;omega
   have U:decide (c=1)=false:=j4 (by omega);have V:decide (c<0)=false:=j4 (by omega);have W:decide (0<c)=true:=bu (by omega);have X:(c==0)=false:=by simp;omega
   have Y:decide (c=0)=false:=j4 (by omega);refine⟨_,(stepG_add_atomic rfl rfl (by k_ne) rfl H.f_addU64 (x_addU64_n L) (x_addU64_b L) (x_addU64_x L) .u64 (x_addU64_f L) rfl rfl d.cellSt (d.thaw 0)).trans (by rw[A];rfl),iy (n:=160) ?_⟩;replace a:Q (e.setCell (stA p.Wg) (.int .u64 S))∧p.live (e.setCell (stA p.Wg) (.int .u64 S)):=⟨m _ _ (.of_wg q (aside_setCell e (stA p.Wg) _) ⟨_,_,d.setSt _⟩) a.1,⟨_,_,d.setSt _⟩⟩;clear d f k A
   walk_nrm
   u_op b a
   u_c stepG_region_end b a
   u_c stepG_ret' b a
   u_leave1 H.f_uAdd b a
   u_op b a
   u_c stepG_region_end b a
   u_c stepG_seq b a
   u_c stepG_seq b a
   u_reg b a
   iterate 4 (u_op b a)
   iterate 2 (u_skip b a)
   u_op b a
   u_c stepG_region_end b a
   u_cnd false b a
   u_c stepG_skip b a
   u_c stepG_seq b a
   u_reg b a
   iterate 4 (u_op b a)
   u_c stepG_region_end b a
   u_c stepG_seq b a
   u_reg b a
   iterate 4 (u_op b a)
   u_c stepG_region_end b a
   u_c stepG_seq b a
   u_c stepG_seq b a
   u_reg b a
   iterate 10 (u_op b a)
   u_c stepG_region_end b a
   u_cnd false b a
   u_c stepG_skip b a
   u_c stepG_seq b a
   u_c stepG_seq b a
   u_reg b a
   iterate 2 (u_op b a)
   u_c stepG_region_end b a
   u_cnd false b a
   u_c stepG_skip b a
   u_c stepG_seq b a
   u_c stepG_seq b a
   u_reg b a
   iterate 3 (u_op b a)
   iterate 2 (u_skip b a)
   iterate 2 (u_op b a)
   iterate 4 (u_skip b a)
   u_op b a
   u_c stepG_region_end b a
   u_cnd false b a
   u_c stepG_skip b a
   u_c stepG_seq b a
   u_c stepG_seq b a
   u_reg b a
   iterate 3 (u_op b a)
   iterate 2 (u_skip b a)
   u_op b a
   u_c stepG_region_end b a
   u_cnd true b a
   u_c stepG_ret' b a
   refine Goes.stop (fun C i=>?_);replace a:=b a i;clear i;refine⟨rfl,_,stepG_unwind_entry (v:=.tuple #[]) (evs:=#[mk .enable]) rfl H.f_enable (x_enable_n L) (x_enable_b L) (x_enable_x L) (x_enable_f L) (by simp[Extern.Race.none_]) (by simp[mk]) (by simp[mk]),?_⟩;refine Way.trans bR.refl bR.aH (Stop:=fun g w=>g=(G (b₀.at (a₀.put ((ops₀[i₀]?).bind (·.dst)) (.tuple #[])) (.inRegion ops₀ rest₀::k₀)) cs)∧Q w∧p.live w) (iy (n:=3) ?_) (fun g w h=>by obtain⟨rfl,h⟩:=h;exact s w h.1 h.2)
   u_leave0 H.f_add b a
   exact Goes.stop fun D o=>⟨rfl,b a o⟩
end
section
open Conc Conc.Lib RowKit
open Go.ConcR (KK WgAt stA smA rd wr mk DC0 Payload Bk)
open Go.ConcR.Gen Go.ConcN.Gen
open Go.ConcN (WgLive st_flag st_waiters)
variable{L:WgLink}{P:Program}{p:dm}{Q:World→Prop}{Next:Goroutine→World→Prop}{j:Nat}{b₀:Frame}{a₀:Act}{ops₀:Array Oper}{i₀:Nat}{rest₀:List Nat}{k₀:List Item}{cs:List Frame}
def Cf(L:WgLink)(p:dm)(Q:World→Prop)(c:Frame)(cs:List Frame)(g:Goroutine)(w:World):Prop:=
 ∃T:Array Value,g=G ((base L.wait).at ⟨T,[]⟩ [.code (L7 L),.inLoop (L7 L),.inBlock 0]) (c::cs)∧T.size=84∧T[0]? =some (.pointer (some ⟨p.Wg,0,none⟩))∧Q w∧p.live w
def XL{c:Frame}{g:Goroutine}{w:World}(h:Cf L p Q c cs g w):g.status=.running:=by obtain⟨T,rfl,_⟩:=h;rfl
def OV(P:Program)(Q:World→Prop)(r:Goroutine)(g:Goroutine)(w:World):Prop:=∃n,Goes P true AtRel DC0 (fun g w=>g=r∧Q w) n g w
def XM(b:∀w w',bR p w w'→Q w→Q w'){w a:World}(h:Q w)(r:AtRel w a):Q a:=by obtain⟨d,rfl⟩:=r;exact b _ _ (bR.at w d) h
def XN(H:WgLib P L)(x:eL p)(s:∀w w',bR p w w'→Q w→Q w')(g:Goroutine)(w:World)(h:Cf L p Q (b₀.at a₀ (.inRegion ops₀ (i₀::rest₀)::k₀)) cs g w):
 fH P p (qF P p (OV P Q (G (b₀.at (a₀.put ((ops₀[i₀]?).bind (·.dst)) (.tuple #[])) (.inRegion ops₀ rest₀::k₀)) cs)) (Cf L p Q (b₀.at a₀ (.inRegion ops₀ (i₀::rest₀)::k₀)) cs)) g w:=by
 lib_facts
 have b:∀{w e},Q w∧p.live w→bR p w e→Q e∧p.live e:=fun h r=>⟨s _ _ r h.1,r.live h.2⟩;have c:∀{w e},Q w→AtRel w e→Q e:=fun h r=>XM s h r;obtain⟨T,rfl,C,y,a⟩:=h;obtain⟨K,M,N,O,gN,R,U,V,W,X,Y,Z,aa,ab,ae,af,IR,ag,ah,ai,aj,ak,al,am,an,ao,ap,aq,ar,au,av,aw,ax,ay,aA,aB,aC,aE,aF,aG,aH,aI,aJ,aK,aL,aM,aN,aO,aP,aQ,aR,aS,aT,aU,aV,aW,aX,aY,aZ,a0,a1,a2,a3,a4,a5,a6,a7,a8,a9,ba,bb,bc,bd,bf,bg,bh,bi,bj,bk,bl,bm,bn,bo,bp,rfl⟩:=array84 T C;simp only[rK,s9,aD]at y;subst y;refine iy (n:=60) ?_;simp only[L7,body_wait,waitFn,ij]
 u_c stepG_block b a
 u_c stepG_seq b a
 u_reg b a
 iterate 3 (u_op b a)
 u_call H.f_uLoad (nm_uLoad L) uLoadFn b a
 u_c stepG_seq b a
 u_reg b a
 u_op b a
 u_c stepG_region_end b a
 u_c stepG_seq b a
 u_reg b a
 iterate 3 (u_op b a)
 refine Goes.stop (fun e z=>?_);replace a:=b a z;clear z;refine⟨rfl,fun v bq d=>?_⟩;rcases qx v with rfl|br
 ·
   replace d:WgAt p.ty p.Wg e 0 0:=by simpa using d
   refine⟨_,stepG_load_atomic (v:=0) rfl rfl (by k_ne) rfl H.f_loadU64 (x_loadU64_n L) (x_loadU64_b L) (x_loadU64_x L) .u64 (x_loadU64_f L) rfl d.cellSt,fun _=>iy (n:=80) ?_,fun h=>absurd rfl h⟩;clear d
   walk_nrm
   u_op b a
   u_c stepG_region_end b a
   u_c stepG_ret' b a
   u_leave1 H.f_uLoad b a
   u_op b a
   u_c stepG_region_end b a
   u_c stepG_seq b a
   u_reg b a
   iterate 4 (u_op b a)
   u_c stepG_region_end b a
   u_c stepG_seq b a
   u_reg b a
   iterate 4 (u_op b a)
   u_c stepG_region_end b a
   u_c stepG_seq b a
   u_c stepG_seq b a
   u_reg b a
   iterate 2 (u_op b a)
   u_c stepG_region_end b a
   u_cond true b a
   u_c stepG_seq b a
   u_cond true b a
   u_c stepG_seq b a
   u_reg b a
   refine Goes.stop (fun D k=>?_);replace a:=b a k;clear k;refine⟨rfl,_,stepG_mark0 .enable (by simp) rfl rfl (by k_ne) rfl H.f_enable (x_enable_n L) (x_enable_b L) (x_enable_x L) (x_enable_f L),iy (n:=20) ?_⟩
   walk_nrm
   u_c stepG_region_end b a
   u_reg b a
   u_op b a
   u_conv H.underlying_tWgP H.room_tWg (WgLive.cell0 a.2).choose_spec b a
   refine Goes.stop (fun E l=>?_);replace a:=b a l;clear l;refine⟨rfl,_,stepG_markAt .acquire (by simp) rfl rfl (by k_ne) rfl H.f_acquire (x_acquire_n L) (x_acquire_b L) (x_acquire_x L) (x_acquire_f L) (by simp[Act.eval,stA]),fun _=>⟨60,?_⟩⟩;replace a:=a.1
   walk_nrm
   u_c stepG_region_end c a
   u_c stepG_seq c a
   u_c stepG_seq c a
   u_reg c a
   iterate 8 (u_op c a)
   iterate 2 (u_skip c a)
   u_op c a
   u_c stepG_region_end c a
   u_cond false c a
   u_c stepG_skip c a
   u_c stepG_ret' c a
   u_leave0 H.f_wait c a
   exact Goes.stop fun F t=>⟨rfl,c a t⟩
 ·
   obtain⟨S,f⟩:∃S:Int,(v:Int)*KK=S:=⟨_,rfl⟩;have bs:S/4294967296=(v:Int):=by rw[←f];simp only[KK];omega
   have bt:bits .and .u64 S 2147483648=0:=by rw[←f];have:=st_flag v 0 (by omega) (by omega);simpa[KK]using this
   have cr:bits .and .u64 S 2147483647=0:=by rw[←f];have:=st_waiters v 0 (by omega) (by omega);simpa[KK]using this
   have bv:IntKind.i32.wrap (v:Int)=(v:Int):=by rw[IntKind.wrap_i32];omega
   have w1:IntKind.u64.wrap (S+1)=S+1:=by rw[IntKind.wrap_u64,←f];simp only[KK];omega
   have bw:decide ((v:Int)<0)=false:=j4 (by omega);have bx:decide (0<(v:Int))=true:=bu (by omega);have bz:((v:Int)==0)=false:=by simp;omega
   have bA:decide ((v:Int)=0)=false:=j4 (by omega);rw[f]at d;refine⟨_,stepG_load_atomic (v:=S) rfl rfl (by k_ne) rfl H.f_loadU64 (x_loadU64_n L) (x_loadU64_b L) (x_loadU64_x L) .u64 (x_loadU64_f L) rfl d.cellSt,fun I=>absurd I (by omega),fun _=>iy (n:=80) ?_⟩;clear d
   walk_nrm
   u_op b a
   u_c stepG_region_end b a
   u_c stepG_ret' b a
   u_leave1 H.f_uLoad b a
   u_op b a
   u_c stepG_region_end b a
   u_c stepG_seq b a
   u_reg b a
   iterate 4 (u_op b a)
   u_c stepG_region_end b a
   u_c stepG_seq b a
   u_reg b a
   iterate 4 (u_op b a)
   u_c stepG_region_end b a
   u_c stepG_seq b a
   u_c stepG_seq b a
   u_reg b a
   iterate 2 (u_op b a)
   u_c stepG_region_end b a
   u_cnd false b a
   u_c stepG_skip b a
   u_c stepG_seq b a
   u_reg b a
   iterate 6 (u_op b a)
   u_call H.f_uCas (nm_uCas L) uCasFn b a
   u_c stepG_seq b a
   u_reg b a
   u_op b a
   u_c stepG_region_end b a
   u_c stepG_seq b a
   u_reg b a
   iterate 5 (u_op b a)
   refine Goes.stop (fun u A=>?_);replace a:=b a A;clear A;refine⟨rfl,fun v' bB d=>⟨fun B=>?_,fun B=>?_⟩⟩
   ·
     subst B;rw[f]at d⊢;refine⟨_,(stepG_cas_hit (v:=S) (n:=S+1) rfl rfl (by k_ne) rfl H.f_casU64 (x_casU64_n L) (x_casU64_b L) (x_casU64_x L) .u64 (x_casU64_f L) rfl rfl rfl d.cellSt (d.thaw 0)).trans (by rfl),OS (n:=80) ?_⟩;replace a:Q (u.setCell (stA p.Wg) (.int .u64 (S+1)))∧p.live (u.setCell (stA p.Wg) (.int .u64 (S+1))):=⟨s _ _ (.of_wg x (aside_setCell u (stA p.Wg) _) ⟨_,_,d.setSt _⟩) a.1,⟨_,_,d.setSt _⟩⟩;clear d
     walk_nrm
     u_op b a
     u_c stepG_region_end b a
     u_c stepG_ret' b a
     u_leave1 H.f_uCas b a
     u_c stepG_region_end b a
     u_cond true b a
     u_c stepG_seq b a
     u_c stepG_seq b a
     u_reg b a
     iterate 4 (u_op b a)
     u_c stepG_region_end b a
     u_cond true b a
     u_reg b a
     iterate 3 (u_op b a)
     u_conv H.underlying_tPU32 H.room_tU32 (WgLive.cell1 a.2).choose_spec b a
     refine Goes.stop (fun m i=>⟨rfl,fun J o=>?_⟩);replace a:=b (b a i) o;clear i o;refine⟨_,_,stepG_markAt .write (by simp) rfl rfl (by k_ne) rfl H.f_raceWrite (x_raceWrite_n L) (x_raceWrite_b L) (x_raceWrite_x L) (x_raceWrite_f L) (ad:=⟨p.Wg,1,none⟩) (by simp[Act.eval]<;>rfl),OT rfl (OU a.2) (.inr rfl),iy (n:=60) ?_⟩
     walk_nrm
     u_c stepG_region_end b a
     u_c stepG_seq b a
     u_reg b a
     u_op b a
     u_c stepG_region_end b a
     u_c stepG_seq b a
     u_c stepG_seq b a
     u_reg b a
     iterate 4 (u_op b a)
     u_skip b a
     u_op b a
     u_c stepG_region_end b a
     u_cond false b a
     u_c stepG_skip b a
     u_c stepG_seq b a
     u_reg b a
     iterate 4 (u_op b a)
     refine Goes.stop (fun m i=>?_);replace a:=b a i;clear i;refine⟨rfl,rfl,fun⟨az,d⟩=>stepG_semacquire_wait rfl rfl rfl H.f_semacquire (x_semacquire_n L) (x_semacquire_b L) (x_semacquire_x L) (x_semacquire_f L) (by simp[Act.eval,smA]) d.cellSm,fun q=>?_⟩;refine⟨_,(stepG_semacquire (n:=1) rfl rfl (by k_ne) rfl H.f_semacquire (x_semacquire_n L) (x_semacquire_b L) (x_semacquire_x L) (x_semacquire_f L) (by simp[Act.eval,smA]) q.cellSm (by k_ne) (q.thaw 1)).trans (by rfl),iy (n:=40) ?_⟩;replace a:Q (m.setCell (smA p.Wg) (.int .u32 0))∧p.live (m.setCell (smA p.Wg) (.int .u32 0)):=⟨s _ _ (.of_wg x (aside_setCell m (smA p.Wg) _) ⟨_,_,q.setSm 0⟩) a.1,⟨_,_,q.setSm 0⟩⟩;clear q
     walk_nrm
     u_c stepG_region_end b a
     u_c stepG_seq b a
     u_reg b a
     iterate 3 (u_op b a)
     u_call H.f_uLoad (nm_uLoad L) uLoadFn b a
     u_c stepG_seq b a
     u_reg b a
     u_op b a
     u_c stepG_region_end b a
     u_c stepG_seq b a
     u_reg b a
     iterate 3 (u_op b a)
     refine Goes.stop (fun J o=>?_);replace a:=b a o;clear o;refine⟨rfl,fun d=>⟨_,stepG_load_atomic (v:=0) rfl rfl (by k_ne) rfl H.f_loadU64 (x_loadU64_n L) (x_loadU64_b L) (x_loadU64_x L) .u64 (x_loadU64_f L) rfl d.cellSt,iy (n:=40) ?_⟩⟩;clear d
     walk_nrm
     u_op b a
     u_c stepG_region_end b a
     u_c stepG_ret' b a
     u_leave1 H.f_uLoad b a
     iterate 2 (u_op b a)
     u_c stepG_region_end b a
     u_c stepG_seq b a
     u_cond true b a
     u_c stepG_seq b a
     u_reg b a
     refine Goes.stop (fun D k=>?_);replace a:=b a k;clear k;refine⟨rfl,_,stepG_mark0 .enable (by simp) rfl rfl (by k_ne) rfl H.f_enable (x_enable_n L) (x_enable_b L) (x_enable_x L) (x_enable_f L),iy (n:=20) ?_⟩
     walk_nrm
     u_c stepG_region_end b a
     u_reg b a
     u_op b a
     u_conv H.underlying_tWgP H.room_tWg (WgLive.cell0 a.2).choose_spec b a
     refine Goes.stop (fun E l=>?_);replace a:=b a l;clear l;refine⟨rfl,_,stepG_markAt .acquire (by simp) rfl rfl (by k_ne) rfl H.f_acquire (x_acquire_n L) (x_acquire_b L) (x_acquire_x L) (x_acquire_f L) (by simp[Act.eval,stA]),fun _=>⟨60,?_⟩⟩;replace a:=a.1
     walk_nrm
     u_c stepG_region_end c a
     u_c stepG_seq c a
     u_c stepG_seq c a
     u_reg c a
     u_op c a
     u_c stepG_region_end c a
     u_cond false c a
     u_c stepG_skip c a
     u_c stepG_ret' c a
     u_leave0 H.f_wait c a
     exact Goes.stop fun F t=>⟨rfl,c a t⟩
   ·
     refine⟨_,stepG_cas_miss (v:=(v':Int)*KK) (old:=S) (n:=S+1) rfl rfl (by k_ne) rfl H.f_casU64 (x_casU64_n L) (x_casU64_b L) (x_casU64_x L) .u64 (x_casU64_f L) rfl rfl rfl d.cellSt (d.thaw 0) (by rw[←f];simp only[KK];omega),iy (n:=20) ?_⟩;clear d
     walk_nrm
     u_op b a
     u_c stepG_region_end b a
     u_c stepG_ret' b a
     u_leave1 H.f_uCas b a
     u_c stepG_region_end b a
     u_cond false b a
     u_c stepG_skip b a
     u_c stepG_inBlock b a
     u_c stepG_inLoop b a
     exact Goes.stop (fun m i=>⟨_,rfl,by simp,by simp,b a i⟩)
def waitStartN(H:WgLib P L)(e:∀w w',bR p w w'→Q w→Q w')(w:World)(a:Q w∧p.live w):
 fH P p (xw P p (Cf L p Q (b₀.at a₀ (.inRegion ops₀ (i₀::rest₀)::k₀)) cs)) (G ((base L.wait).at ⟨#[.pointer (some ⟨p.Wg,0,none⟩)]++Array.replicate 83 undef,[]⟩ [.code (body_wait L)]) ((b₀.at a₀ (.inRegion ops₀ (i₀::rest₀)::k₀))::cs)) w:=by
 lib_facts
 have b:∀{w c},Q w∧p.live w→bR p w c→Q c∧p.live c:=fun h r=>⟨e _ _ r h.1,r.live h.2⟩;refine iy (n:=3) ?_;simp only[body_wait,waitFn,ij]
 u_c stepG_seq b a
 u_cond true b a
 u_reg b a
 refine Goes.stop (fun c d=>?_);replace a:=b a d;clear d;refine⟨rfl,_,stepG_mark0 .disable (by simp) rfl rfl (by k_ne) rfl H.f_disable (x_disable_n L) (x_disable_b L) (x_disable_x L) (x_disable_f L),iy (n:=3) ?_⟩
 walk_nrm
 u_c stepG_region_end b a
 u_c stepG_block b a
 u_c stepG_loop b a
 exact Goes.stop (fun g f=>⟨_,rfl,by simp,by simp,b a f⟩)
end
section
open Conc Conc.Lib RowKit
open Go.ConcR (KK WgAt stA smA rd wr mk DC0 Payload Bk)
open Go.ConcR.Gen Go.ConcN.Gen
open Go.ConcN (WgLive RW DWs AtR0 AtK1 Has)
def XO{P:Program}{f:World→World→Prop}{D:World→World→Array Event→Prop}{S:Goroutine→World→Prop}{ev dL:Event}(i:∀w,f w w)(s:ev≠dL)(q:∀g w,S g w→∃g',stepG P false g w=.go g' w #[ev])(t:∀w w',¬D w w' #[dL]):
 ∀{m n:Nat} {g:Goroutine} {w:World},Goes P false f DC0 (fun g w=>∃g' k,stepG P false g w=.go g' w #[ev]∧Goes P false f DC0 (fun g w=>∃g',stepG P false g w=.go g' w #[dL]) k g' w) m g w→Goes P false f D S n g w→Goes P false f DC0 S m g w:=by
 have last:∀{k n:Nat} {g:Goroutine} {w:World},Goes P false f DC0 (fun g w=>∃g',stepG P false g w=.go g' w #[dL]) k g w→¬Goes P false f D S n g w:=by
  intro k
  induction k with
  |zero=>
   intro n g w h a;obtain⟨g',l⟩:=h w (i w);have j:¬S g w:=fun o=>by obtain⟨_,d⟩:=q _ _ o;rw[l]at d;simp only[GStep.go.injEq]at d;have:=d.2.2;simp at this;exact s this.symm
   cases n with
   |zero=>exact j (a w (i w))|succ n=>
    rcases a with a|⟨_,a⟩
    ·exact j (a w (i w))
    ·have:=a w (i w);rw[l]at this;exact t _ _ this.1
  |succ k p=>
   intro n g w h a;rcases h with h|⟨_,h⟩
   ·have:Goes P false f DC0 (fun g w=>∃g',stepG P false g w=.go g' w #[dL]) k g w:=Goes.stop h;exact p this a
   ·have h1:=h w (i w);cases e:stepG P false g w with
    |go g' w' u=>
     rw[e]at h1;obtain⟨⟨rfl,rfl⟩,h2⟩:=h1;have j:¬S g w':=fun o=>by obtain⟨_,d⟩:=q _ _ o;rw[e]at d;simp at d
     cases n with
     |zero=>exact j (a w' (i w'))|succ n=>
      rcases a with a|⟨_,a⟩
      ·exact j (a w' (i w'))
      ·have:=a w' (i w');rw[e]at this;exact p h2 this.2
    |_=>rw[e]at h1;exact h1.elim
 intro m
 induction m with
 |zero=>
  intro n g w h a;refine fun c b=>?_;obtain⟨g',k,l,r⟩:=h c b;cases n with
  |zero=>exact a c b|succ n=>
   rcases a with a|⟨_,a⟩
   ·exact a c b
   ·have:=a c b;rw[l]at this;exact(last r this.2).elim
 |succ m p=>
  intro n g w h a;rcases h with h|⟨v,h⟩
  ·refine .inl fun c b=>?_;obtain⟨g',k,l,r⟩:=h c b;cases n with
   |zero=>exact a c b|succ n=>
    rcases a with a|⟨_,a⟩
    ·exact a c b
    ·have:=a c b;rw[l]at this;exact(last r this.2).elim
  ·refine .inr ⟨v,fun c b=>?_⟩;have h1:=h c b;cases e:stepG P false g c with
   |go g' w' u=>
    rw[e]at h1;obtain⟨⟨rfl,rfl⟩,h2⟩:=h1;have j:¬S g w':=fun o=>by obtain⟨_,d⟩:=q _ _ o;rw[e]at d;simp at d
    refine⟨⟨rfl,rfl⟩,?_⟩;cases n with
    |zero=>exact(j (a w' b)).elim|succ n=>
     rcases a with a|⟨_,a⟩
     ·exact(j (a w' b)).elim
     ·have:=a w' b;rw[e]at this;exact p h2 this.2
   |_=>rw[e]at h1;exact h1.elim
variable [Payload]{L:WgLink}{P:Program}{Q C n k:Nat}{val:Value}{T:Frame}{U:Act}{R:Array Oper}{V:Nat}{W:List Nat}{X:List Item}{cs:List Frame}{qt:Nat}
def tB(H:WgLib P L)(c:QuitsD P qt 0 (G (T.at (U.put ((R[V]?).bind (·.dst)) (.tuple #[])) (.inRegion R W::X)) cs))(w:World)(a:WgLive L.tWg Q w∧Has C k val w):
 Goes P false (RW L.tWg Q C n 0 k) DC0 (AtR0 P L.tWg Q C n 0 (k+1) val) 20 (G ((base L.add).at ⟨#[.pointer (some ⟨Q,0,none⟩),.int .i64 (-1),undef,undef,undef,undef,undef,undef,undef,undef,undef,undef,undef,undef,undef,undef,undef,undef,undef,undef,undef,undef,undef,undef,undef,undef,undef,undef,undef,undef,undef,undef,undef,undef,undef,undef,undef,undef,undef,undef,undef,undef,undef,undef,undef,undef,undef,undef,undef,undef,undef,undef,undef,undef,undef,undef,undef,undef,undef,undef,undef,undef,undef,undef,undef,undef,undef,undef,undef,undef,undef,undef,undef,undef,undef,undef,undef,undef,undef,undef,undef,undef,undef,undef,undef,undef,undef,undef,undef,undef,undef,undef,undef,undef,undef,undef,undef,undef,undef,undef,undef,undef,undef,undef,undef,undef,undef,undef,undef,undef,undef,undef,undef,undef,undef,undef,undef],[]⟩ [.code (body_add L)]) (T.at U (.inRegion R (V::W)::X)::cs)) w:=by
 lib_facts
 have cB:=addNegN (Own:=fun _ _=>False) (Rd:=fun _ _=>False) (Low:=0) (k:=k+1) (n:=n) (C:=C) (val:=val) H c w a;refine XO (ev:=mk (.releaseMerge (stA Q))) (dL:=mk .disable) rJ (by simp[mk]) (fun g w h=>let⟨_,_,g',d,_⟩:=h;⟨g',d⟩) (fun w w' h=>(h.2 (mk .disable) (by simp)).2.1 rfl) ?_ cB;clear cB;simp only[body_add,addFn,ij]
 u_c stepG_seq kn_rely a
 u_cond true kn_rely a
 u_c stepG_seq kn_rely a
 u_c stepG_seq kn_rely a
 u_reg kn_rely a
 iterate 2 (u_op kn_rely a)
 u_c stepG_region_end kn_rely a
 u_cond true kn_rely a
 u_reg kn_rely a
 u_op kn_rely a
 u_conv H.underlying_tWgP H.room_tWg (WgLive.cell0 a.1).choose_spec kn_rely a
 refine Goes.stop (fun e b=>?_);replace a:=kn_rely a b;clear b;refine⟨_,5,stepG_markAt .releaseMerge (by simp) rfl rfl (by k_ne) rfl H.f_relMerge (x_relMerge_n L) (x_relMerge_b L) (x_relMerge_x L) (x_relMerge_f L) (by simp[Act.eval,stA]),?_⟩
 walk_nrm
 u_c stepG_region_end kn_rely a
 u_c stepG_seq kn_rely a
 u_reg kn_rely a
 refine Goes.stop (fun f i=>?_);exact⟨_,stepG_mark0 .disable (by simp) rfl rfl (by k_ne) rfl H.f_disable (x_disable_n L) (x_disable_b L) (x_disable_x L) (x_disable_f L)⟩
def XP(H:WgLib P L)(b:QuitsD P qt 0 (G (T.at (U.put ((R[V]?).bind (·.dst)) (.tuple #[])) (.inRegion R W::X)) cs))(w:World)(a:WgLive L.tWg Q w∧Has C k val w):
 Goes P false (RW L.tWg Q C n 0 k) DC0 (AtR0 P L.tWg Q C n 0 (k+1) val) 23 (G ((base L.done).at ⟨#[.pointer (some ⟨Q,0,none⟩),undef,undef,undef],[]⟩ [.code (body_done L)]) (T.at U (.inRegion R (V::W)::X)::cs)) w:=by
 lib_facts
 have cB:=@tB _ L P Q C n k val;simp only[body_done,body_add,doneFn,addFn,ij]at cB⊢
 u_reg kn_rely a
 u_op kn_rely a
 u_call H.f_add (nm_add L) addFn kn_rely a
 refine cB (qt:=qt+3) H ?_ _ a
 q_c stepG_region_end
 q_c stepG_end
 exact QuitsD.leave0 rfl rfl H.f_done rfl b
end
section
open Conc Conc.Lib
open Go.ConcR (KK WgAt stA smA rd wr mk DC0 Payload Bk)
open Go.ConcR.Gen
open Go.ConcN (WgLive CTag WD)
section
variable{P:Program}{U:Machine}{V:FuncId}{p:dm}{W:Loc→Prop}{R:Array Goroutine}{a Q:Goroutine}{w w':World}{sl:Option (Nat×Nat)}{T:Trace}{q:Nat→Nat}{Next Anch:Goroutine→World→Prop}
def FAA.start:FAA p 0 p.cG:=⟨rfl,rfl,rfl,aV _,fun _ _ _ _=>rfl,.refl _ _ _⟩
def iw.crowd(h:iw P U V p.Sh R a w sl T q)(E:a.frame.fn=V){m:Nat}{d:Option (Nat×Nat)}(z:stepT P (crowd R w sl)=runT P (crowd R (w.at m) d) 0)(A:stepG P true a (w.at m)=.go Q p.cG #[])(B:eL p)
 (F:p.aZ=R.size) (H:p.Wg=w.heap.size) (n:w.heap.size≤p.cG.heap.size) (C:WgAt p.ty p.Wg p.cG 0 0) (an:0<p.N) (f:oR P p Anch p.N Q p.cG)
 (I:∀k c,k<p.N→p.cG.heap.size≤c→zP P U (p.aZ+k) c→p.mO k c) (K:∀g w,Anch g w→g.status=.running) (L:∀g w,Anch g w→fH P p (qF P p Next Anch) g w):
 ∃o Q w' d s t,iw P U V (fun l=>p.Sh l∨pR p.Wg l) o Q w' d s t∧Next Q w'∧(∀k,k<p.N→p.kO k w')∧FAA p p.N w':=by
 obtain⟨J,M⟩:=h.run;have O:=runT_crowd_go (P:=P) (sl:=d) (i:=0) h.h0 (show stepG P (0==0) a (w.at m)=_ from A);obtain⟨h1,X⟩:=h.step z A n (fun e u=>by simp at u);have Y:fG p.Sh p.Wg p.Own p.bL p.aZ 0 p.cG.heap.size 0 (ay.pS fun _=>⟨0,0,0⟩) (ay.vi fun _=>⟨0,0,0⟩) (T++MemOp.ofEvents 0 a.frame.fn a.frame.place #[]):=by
  have:=fG.main (g9:=ay.pS fun _=>⟨0,0,0⟩) (rel:=ay.vi fun _=>⟨0,0,0⟩) B.vh (fG.IK h.vj (pI H.symm)) n (fn:=a.frame.fn) (pos:=a.frame.place) (es:=#[]) (fun e u=>by simp at u);simpa[deafBehind]using this
 obtain⟨r,Z⟩:∃r,p.N=r+1:=⟨p.N-1,by omega⟩;have f:fH P p (EZ P p (oR P p Anch r) (p.N-(r+1))) Q p.cG:=by rw[Z]at f;exact f
 obtain⟨aa,ab⟩:=f.iI;have ad:((R.map (woken P a Q p.cG)).setIfInBounds 0 Q).size=p.aZ+0:=by simp[F]
 obtain⟨ae,o,b,w',d,s,t,af,ao,ag,ah,ai,aj,ak,ny⟩:=crowd_runs B I K L _ ⟨J+1,_,Q,p.cG,d,_,q,0,fun _=>⟨0,0,0⟩,fun _=>.leaf,.sp r 5,aa,0,1,0,0,M.step (z.trans O) n,h1.h0,
  ⟨ad,fun k v=>absurd v (oz _),⟨fun i g al _ am=>h1.nx.old i g al am,h1.nx.above⟩,Y,fun k v=>absurd v (oz _),FAA.start⟩,
  by have:=fh.skd (P:=P) (p:=p) (Next:=Next) (Anch:=Anch) (r:=r) (by omega) ab
     rwa[show p.N-(r+1)=0 by omega]at this,C,by
   have:=ConcN.Mode.opn (j:=0) (D:=fun _=>⟨0,0,0⟩) (tag:=.sp r 5) trivial (fun i hi=>absurd hi (oz _)) (fun vs e=>by cases e);simpa[ConcN.Vc,ConcN.pend,ConcN.sumTo]using this,rfl⟩
 refine⟨o,b,w',d,s,t,⟨⟨ae,af⟩,ag,ah,ai,fun l x=>?_⟩,aj,ak,ny⟩;have ap:=ny.size;rcases x with x|⟨y,rfl,aq⟩
 ·obtain⟨y,e,h2,h3⟩:=h.oS l x;exact⟨y,e,by omega,h3⟩
 ·have:=(dX.1 C).1;exact⟨y,rfl,by omega,(X _ (by omega) (by omega)).2 E⟩
end
section
variable{S:WgLink}{P:Program}{p:dm}{k:Nat}{val:Value}{b₀:Frame}{a₀:Act}{ops₀:Array Oper}{i₀:Nat}{rest₀:List Nat}{k₀:List Item}{cs:List Frame}{qt:Nat}{w:World}
def jP.idle(w:World):jP p k w w #[]:=⟨rfl,rfl,rfl,aV _,fun _ _ _ _=>rfl,.refl _ _ _,by simp⟩
def Way.XQ{main:Bool}{m R':Rel}{D D':ve}{n:lp}{g:Goroutine}{w:World}(au:World→Prop)(i:∀a b,au a→R' a b→m a b)(l:∀a b,R' a b→au a→au b)(r:∀a b e,D a b e→au a→au b)(s:∀a b e,au a→D a b e→D' a b e)(h:Way P main m D n g w)(bU:au w):
 Way P main R' D' (fun g w=>n g w∧au w) g w:=by
 induction h with
 |stop h=>exact .stop fun f c=>⟨h f (i _ _ bU c),l _ _ c bU⟩|step t h _ u=>
  refine .step t (fun f c=>?_) fun f g' w' e c j=>?_
  ·obtain⟨g',w',e,j,d⟩:=h f (i _ _ bU c);exact⟨g',w',e,j,s _ _ _ (l _ _ c bU) d⟩
  ·obtain⟨v,x,y,o,d⟩:=h f (i _ _ bU c);rw[j]at o;cases o;exact u f g' w' e (i _ _ bU c) j (r _ _ _ d (l _ _ c bU))
def XR(i:WgLib P S)(f:eL p)(d:p.ty=S.tWg)(j:QuitsD P qt 0 (G (b₀.at (a₀.put ((ops₀[i₀]?).bind (·.dst)) (.tuple #[])) (.inRegion ops₀ rest₀::k₀)) cs))(e:p.live w)(l:w.cell? ⟨p.bN,p.kx k,none⟩=some val)(c:p.kO k w):
 gF P false (dw p k) (p.xq k) (jP p k) (EY P p k) (G ((base S.done).at ⟨#[.pointer (some ⟨p.Wg,0,none⟩),undef,undef,undef],[]⟩ [.code (body_done S)]) (b₀.at a₀ (.inRegion ops₀ (i₀::rest₀)::k₀)::cs)) w:=by
 letI:=p.pl;have e:WgLive S.tWg p.Wg w:=d▸e;have m:=Way.vf qG (XP (C:=p.bN) (n:=p.n) (k:=p.kx k) (val:=val) i j w ⟨e,l⟩);refine Way.toN (Way.mono (fun g w' h=>?_) (Way.XQ (R':=dw p k) (D':=jP p k) (p.kO k) (fun a b _ h=>by have:=h.rw f;rw[dm.rW,d]at this;exact this) (fun a b h c=>f.pay k a b h c) (fun a b o h c=>by rw[h.1];exact c) (fun a b o _ h=>by obtain⟨r,s⟩:=h;rw[r,s];exact jP.idle a) m c));obtain⟨⟨h1,_,h2⟩,t⟩:=h;unfold EY dm.rW;rw[d];exact⟨h1,t,h2⟩
end
end
end Go.ay
namespace Go.Proofs.YtcminalaicidiaaGreatDoor
section
open Go
abbrev link:Go.Conc.Lib.WgLink:={add:=49,done:=48,wait:=50,relMerge:=60,disable:=61,enable:=62,inBubble:=63,associate:=64,fatal:=65,uOr:=66,uAdd:=67,raceRead:=68,uLoad:=69,uStore:=70,disassociate:=71,semrelease:=72,acquire:=73,isAssociated:=74,uCas:=75,raceWrite:=76,semacquire:=77,orU64:=87,addU64:=88,loadU64:=89,storeU64:=90,casU64:=91,tWgP:=101,tUP:=130,tAssoc:=131,tWg:=112,tAU:=110,tU64:=51,tUint:=61,tU32:=43,tPU32:=134,tPAU:=155,tPU64:=121,tNoCopy:=106,tANoCopy:=107,tAlign64:=108}
def zQ:Go.Conc.Lib.WgLib Tryz.prog link:=
 ⟨Tryz.func49,Tryz.func48,Tryz.func50,Tryz.func60,Tryz.func61,Tryz.func62,Tryz.func63,Tryz.func64,Tryz.func65,Tryz.func66,Tryz.func67,Tryz.func68,Tryz.func69,Tryz.func70,Tryz.func71,Tryz.func72,Tryz.func73,Tryz.func74,Tryz.func75,Tryz.func76,Tryz.func77,Tryz.func87,Tryz.func88,Tryz.func89,Tryz.func90,Tryz.func91,Tryz.underlying101,Tryz.runUnderlying101,Tryz.sizeOf101,Tryz.isAgg101,Tryz.zeroValue101,Tryz.underlying130,Tryz.runUnderlying130,Tryz.sizeOf130,Tryz.isAgg130,Tryz.zeroValue130,Tryz.underlying131,Tryz.runUnderlying131,Tryz.sizeOf131,Tryz.isAgg131,Tryz.zeroValue131,Tryz.underlying112,Tryz.runUnderlying112,Tryz.sizeOf112,Tryz.isAgg112,Tryz.zeroValue112,Tryz.underlying110,Tryz.runUnderlying110,Tryz.sizeOf110,Tryz.isAgg110,Tryz.zeroValue110,Tryz.underlying51,Tryz.runUnderlying51,Tryz.sizeOf51,Tryz.isAgg51,Tryz.zeroValue51,Tryz.underlying61,Tryz.runUnderlying61,Tryz.sizeOf61,Tryz.isAgg61,Tryz.zeroValue61,Tryz.underlying43,Tryz.runUnderlying43,Tryz.sizeOf43,Tryz.isAgg43,Tryz.zeroValue43,Tryz.underlying134,Tryz.runUnderlying134,Tryz.sizeOf134,Tryz.isAgg134,Tryz.zeroValue134,Tryz.underlying155,Tryz.runUnderlying155,Tryz.sizeOf155,Tryz.isAgg155,Tryz.zeroValue155,Tryz.underlying121,Tryz.runUnderlying121,Tryz.sizeOf121,Tryz.isAgg121,Tryz.zeroValue121,Tryz.underlying0,Tryz.runUnderlying0,Tryz.sizeOf0,Tryz.isAgg0,Tryz.zeroValue0,Tryz.underlying3,Tryz.runUnderlying3,Tryz.sizeOf3,Tryz.isAgg3,Tryz.zeroValue3,Tryz.underlying4,Tryz.runUnderlying4,Tryz.sizeOf4,Tryz.isAgg4,Tryz.zeroValue4,Tryz.underlying9,Tryz.runUnderlying9,Tryz.sizeOf9,Tryz.isAgg9,Tryz.zeroValue9,Tryz.underlying20,Tryz.runUnderlying20,Tryz.sizeOf20,Tryz.isAgg20,Tryz.zeroValue20,Tryz.underlying21,Tryz.runUnderlying21,Tryz.sizeOf21,Tryz.isAgg21,Tryz.zeroValue21,(by kernel_rfl),(by kernel_rfl)⟩
end
section
open Go Go.ay Conc Conc.Lib RowKit
open Go.ConcR (KK WgAt stA smA rd wr mk DC0 wgBlock)
open Go.ConcR.Gen Go.ConcN.Gen
open Go.ConcN (WgLive)
variable{Q:World}{t:TypeId}{v:Value}{R:Obj}{b:Nat}
abbrev rZ(P:Program)(Sh:Loc→Prop)(Wg:Nat)(U:lp):Goroutine→World→Prop:=ay.Way P true AtRel (zN Sh Wg) U
section
variable{P:Program}{Sh:Loc→Prop}{Wg n:Nat}{U:lp}{g:Goroutine}{w:World}
def vk(h:Goes P true AtRel DC0 U n g w):rZ P Sh Wg U g w:=
 Way.OB (fun _ _ h=>h) (fun w _ _ h=>by rw[h.1,h.2];exact⟨aV _,by simp⟩) (Way.vf mP h)
def nA(h:Goes P true AtRel DC0 (fun g w=>g.status=.running∧∀Q,AtRel w Q→(stepG P true g Q).goes fun g' w' a=>zN Sh Wg Q w' a∧rZ P Sh Wg U g' w') n g w):rZ P Sh Wg U g w:=
 Way.trans AtRel.refl mP (vk h) fun g w ⟨d,h⟩=>.one d fun Q e=>by
  have:=h Q e;cases c:stepG P true g Q with
  |go g' w' a=>rw[c]at this;exact⟨g',w',a,rfl,this⟩|_=>rw[c]at this;exact this.elim
def IS{B:Nat}{a:Addr}(d:Bool)(h:a.block≠Wg)(e:¬Sh (.cell a))(cR:a.block<B):zH Sh Wg B ⟨.cell a,d,false⟩:=by
 refine⟨fun k c=>?_,by rw[yZ];simp,by rw[yZ];exact cR⟩;rw[yZ]at c;simp only[MemAct.touch?,aD]at c;subst c;exact⟨fun f=>absurd f e,fun⟨z,i,j⟩=>by cases i;exact absurd j h⟩
end
structure Ext(w0:World)(gO:List Obj)(w:World):Prop where
 os:w.os=w0.os
 tape:w.tape=w0.tape
 output:w.output=w0.output
 heap:w.heap=w0.heap++gO.toArray
section
variable{w0 w:World}{gO:List Obj}
def Ext.refl(w:World):Ext w [] w:=⟨rfl,rfl,rfl,by simp⟩
def Ext.rely(h:Ext w0 gO w)(r:AtRel w Q):Ext w0 gO Q:=by obtain⟨d,rfl⟩:=r;exact⟨h.os,h.tape,h.output,h.heap⟩
def Ext.alloc(h:Ext w0 gO w)(R:Obj):Ext w0 (gO++[R]) (w.alloc R):=⟨h.os,h.tape,h.output,by simp[World.alloc,h.heap]⟩
def Ext.size(h:Ext w0 gO w):w.heap.size=w0.heap.size+gO.length:=by rw[h.heap];simp
def xz(w:World)(R:Obj):w.heap.size≤(w.alloc R).heap.size:=by simp[World.alloc, -World.alloc_eq]
def Ext.xA(h:Ext w0 (gO++[R]) (w.alloc R)):w.heap.size=w0.heap.size+gO.length:=by
 have:=h.size;have a:(w.alloc R).heap.size=w.heap.size+1:=by simp[World.alloc, -World.alloc_eq]
 rw[a,fB,List.length_singleton]at this;omega
def Ext.at(h:Ext w0 gO w)(i:Nat)(hi:gO[i]? =some R):w.heap[w0.heap.size+i]? =some R:=by
 rw[h.heap,Array.getElem?_append_right (by omega)];simpa using hi
def Ext.old(h:Ext w0 gO w){c:Nat}(a:c<w0.heap.size):w.heap[c]? =w0.heap[c]? :=by rw[h.heap,Array.getElem?_append_left a]
def Ext.cell(h:Ext w0 gO w)(i:Nat){cs:Array Value}(hi:gO[i]? =some (.cells cs t))(a:cs[0]? =some v):w.cell? ⟨w0.heap.size+i,0,none⟩=some v:=by
 simp[World.cell?,h.at i hi,a]
def Ext.thaw(h:Ext w0 gO w)(i:Nat){cs:Array Value}(hi:gO[i]? =some (.cells cs t)):w.frozen? ⟨w0.heap.size+i,0,none⟩=false:=by
 simp[World.frozen?,h.at i hi]
def Ext.store(h:Ext w0 gO w)(i:Nat){a:Value}(hi:gO[i]? =some (.cells #[a] t))(v:Value):Ext w0 (gO.set i (.cells #[v] t)) (w.setCell ⟨w0.heap.size+i,0,none⟩ v):=by
 have cB:=aside_setCell w ⟨w0.heap.size+i,0,none⟩ v;refine⟨cB.os.trans h.os,cB.tape.trans h.tape,cB.output.trans h.output,?_⟩;have c:w.heap[w0.heap.size+i]? =some (.cells #[a] t):=h.at i hi;apply Array.ext_getElem?;intro j;by_cases d:j=w0.heap.size+i
 ·subst d;rw[setCell_eq_setRow w _ 0 _ t (0,0) _ c,setRow_heap w _ _ _ t _ c];have e:i<gO.length:=(dW.1 hi).1;simp[h.heap,e]
 ·rw[cB.block j d,h.heap];simp only[N0];split
  ·rfl
  ·have f:i≠j-w0.heap.size:=by omega
   simp[mw f]
end
def XS(T:Array Value):T=⟨(List.range T.size).map fun i=>T.getD i undef⟩:=by
 apply Array.ext
 ·simp
 ·intro i h1 h2;simp[Array.getD,h1]
def r3(T:Array Value)(h:T.size=43):∃f:Nat→Value,T=#[f 0,f 1,f 2,f 3,f 4,f 5,f 6,f 7,f 8,f 9,f 10,f 11,f 12,f 13,f 14,f 15,f 16,f 17,f 18,f 19,f 20,f 21,f 22,f 23,f 24,f 25,f 26,f 27,f 28,f 29,f 30,f 31,f 32,f 33,f 34,f 35,f 36,f 37,f 38,f 39,f 40,f 41,f 42]:=by
 refine⟨fun i=>T.getD i undef,?_⟩;have:=XS T;rw[h]at this;exact this.trans rfl
def dQ:Code→Code|.seq _ b=>b|c=>c
def j7:Code→Code|.seq a _=>a|c=>c
def j8:Code→Code|.block _ b=>b|c=>c
def nB:Code→Code|.loop b=>b|c=>c
def opsOf:Code→Array Oper|.region _ R _=>R|_=>#[]
noncomputable def pU:Code:=Tryz.f33.body.getD .skip
def lQ:Code:=nB (j8 (dQ (dQ (dQ (dQ (dQ pU))))))
def nC:Code:=j8 (j7 (dQ lQ))
def lR:Code:=nB (j8 (dQ nC))
def j9:Code:=j8 (j7 (dQ lR))
def kg:Code:=nB (j8 (dQ (j7 (dQ j9))))
def oT:Array Oper:=opsOf (j7 j9)
def nD:Array Oper:=opsOf (j7 (j8 (j7 (dQ kg))))
def qJ:Array Oper:=opsOf (dQ (j8 (j7 (dQ kg))))
def mR:Array Oper:=opsOf (dQ (dQ j9))
def pV:List Item:=[.inBlock 1,.code (dQ (dQ lQ)),.inLoop lQ,.inBlock 0]
def ki:List Item:=.inBlock 3::.code (dQ (dQ lR))::.inLoop lR::.inBlock 2::pV
def iZ(T:Array Value)(k:List Item):Frame:=(base 33).at ⟨T,[]⟩ k
def vl(T:Array Value)(cs:List Frame):Goroutine:=G (iZ T [.code lQ,.inLoop lQ,.inBlock 0]) cs
def r4(T:Array Value)(cs:List Frame):Goroutine:=G (iZ T (.code lR::.inLoop lR::.inBlock 2::pV)) cs
def zR(T:Array Value)(cs:List Frame):Goroutine:=G (iZ T (.inRegion oT [0]::.code (dQ j9)::ki)) cs
def vm(T:Array Value)(cs:List Frame):Goroutine:=G (iZ T (.code kg::.inLoop kg::.inBlock 4::.code (dQ (dQ j9))::ki)) cs
def zS(T:Array Value)(cs:List Frame):Goroutine:=G {iZ T []with mode:=.returning} cs
def cA(n:Nat):Value:=.pointer (some ⟨n,0,none⟩)
def mS(n0:Nat):Array Value:=#[cA (n0+4),cA (n0+2),cA (n0+1),cA (n0+5),cA (n0+6),cA n0,cA (n0+3)]
structure TS(n0:Nat)(n:Int)(T:Array Value):Prop where
 size:T.size=43
 t5:T[5]? =some (cA n0)
 t6:T[6]? =some (cA (n0+1))
 t7:T[7]? =some (cA (n0+2))
 t8:T[8]? =some (cA (n0+3))
 t9:T[9]? =some (cA (n0+4))
 t10:T[10]? =some (cA (n0+5))
 t11:T[11]? =some (cA (n0+6))
 t12:T[12]? =some (.func (.func 44) #[] (mS n0))
 t13:T[13]? =some (.int .u32 n)
def boxes(lS:Option Addr)(lT eM:Nat)(tm mem dD m V W:Int):List Obj:=
 [.cells #[.slice lS lT eM] 68,.cells #[.int .u32 tm] 43,.cells #[.int .u32 mem] 43,.cells #[.int .u32 dD] 43,.cells #[.int .i64 m] 3,.cells #[.int .u32 V] 43,.cells #[.int .u32 W] 43]
section
variable{Sh:Loc→Prop}{w0:World}{lS:Option Addr}{lT eM:Nat}{tm mem dD m V W:Int}{cs:List Frame}
def xB(d:∀a:Addr,Sh (.cell a)→a.block<w0.heap.size){gO:List Obj}{w:World}(e:Ext w0 gO w){i:Nat}(hi:i<gO.length)(f:w0.heap.size+i≠w0.heap.size+7)(c:Bool)(R:Nat){B:Nat}(cR:w.heap.size≤B):zH Sh (w0.heap.size+7) B ⟨.cell ⟨w0.heap.size+i,R,none⟩,c,false⟩:=
 IS c f (fun h=>by have:=d _ h;simp at this;omega) (by show w0.heap.size+i<B;have:=e.size;omega)
def XT(s:∀a:Addr,Sh (.cell a)→a.block<w0.heap.size)(x:¬dD=0)(y:IntKind.u32.wrap (mem.tdiv dD)=V)(z:IntKind.u32.wrap (V.tdiv 4)=W)(w:World)(c:Ext w0 [] w):
 rZ Tryz.prog Sh (w0.heap.size+7) (fun g w=>∃T,g=vl T cs∧TS w0.heap.size 0 T∧Ext w0 (boxes lS lT eM tm mem dD m V W) w) (G ((base 33).at ⟨#[.slice lS lT eM,.int .u32 tm,.int .u32 mem,.int .u32 dD,.int .i64 m,undef,undef,undef,undef,undef,undef,undef,undef,undef,undef,undef,undef,undef,undef,undef,undef,undef,undef,undef,undef,undef,undef,undef,undef,undef,undef,undef,undef,undef,undef,undef,undef,undef,undef,undef,undef,undef,undef],[]⟩ [.code (Tryz.f33.body.getD .skip)]) cs) w:=by
 have xB:∀{gO:List Obj} {w:World},Ext w0 gO w→∀{i:Nat},i<gO.length→w0.heap.size+i≠w0.heap.size+7→∀(r:Bool) (R:Nat) {B:Nat},w.heap.size≤B→zH Sh (w0.heap.size+7) B ⟨.cell ⟨w0.heap.size+i,R,none⟩,r,false⟩:=fun c i hi u r R B cR=>xB s c hi u r R cR;simp only[Tryz.f33,ij];refine nA (n:=9) ?_
 u_c stepG_seq Ext.rely c
 u_reg Ext.rely c
 refine Goes.stop fun Q e=>⟨rfl,fun p f=>?_⟩;replace c:=(c.rely e).rely f;clear e f;refine goes_oper_k rfl rfl (by k_ne) (fun j d=>?_);go_simp;refine d _ _ ⟨⟨xz _ _,fun o k=>by have h:=mem_listed k;clear d;simp[go_sem,storedEv]at h⟩,nA (n:=9) ?_⟩;clear d j;replace c:=Ext.alloc c (.cells #[.slice lS lT eM] 68);rw[Ext.xA c];simp only[jK,nh,iW,kI,gb,cM,Nat.reduceAdd]at c⊢;try w_num
 refine Goes.stop fun Q e=>⟨rfl,fun p f=>?_⟩;replace c:=(c.rely e).rely f;clear e f;refine goes_oper_k rfl rfl (by k_ne) (fun j d=>?_);go_simp;refine d _ _ ⟨⟨xz _ _,fun o k=>by have h:=mem_listed k;clear d;simp[go_sem,storedEv]at h⟩,nA (n:=9) ?_⟩;clear d j;replace c:=Ext.alloc c (.cells #[.int .u32 tm] 43);rw[Ext.xA c];simp only[jK,nh,iW,kI,gb,cM,Nat.reduceAdd]at c⊢;try w_num
 refine Goes.stop fun Q e=>⟨rfl,fun p f=>?_⟩;replace c:=(c.rely e).rely f;clear e f;refine goes_oper_k rfl rfl (by k_ne) (fun j d=>?_);go_simp;refine d _ _ ⟨⟨xz _ _,fun o k=>by have h:=mem_listed k;clear d;simp[go_sem,storedEv]at h⟩,nA (n:=9) ?_⟩;clear d j;replace c:=Ext.alloc c (.cells #[.int .u32 mem] 43);rw[Ext.xA c];simp only[jK,nh,iW,kI,gb,cM,Nat.reduceAdd]at c⊢;try w_num
 refine Goes.stop fun Q e=>⟨rfl,fun p f=>?_⟩;replace c:=(c.rely e).rely f;clear e f;refine goes_oper_k rfl rfl (by k_ne) (fun j d=>?_);go_simp;refine d _ _ ⟨⟨xz _ _,fun o k=>by have h:=mem_listed k;clear d;simp[go_sem,storedEv]at h⟩,nA (n:=9) ?_⟩;clear d j;replace c:=Ext.alloc c (.cells #[.int .u32 dD] 43);rw[Ext.xA c];simp only[jK,nh,iW,kI,gb,cM,Nat.reduceAdd]at c⊢;try w_num
 refine Goes.stop fun Q e=>⟨rfl,fun p f=>?_⟩;replace c:=(c.rely e).rely f;clear e f;refine goes_oper_k rfl rfl (by k_ne) (fun j d=>?_);go_simp;refine d _ _ ⟨⟨xz _ _,fun o k=>by have h:=mem_listed k;clear d;simp[go_sem,storedEv]at h⟩,nA (n:=9) ?_⟩;clear d j;replace c:=Ext.alloc c (.cells #[.int .i64 m] 3);rw[Ext.xA c];simp only[jK,nh,iW,kI,gb,cM,Nat.reduceAdd]at c⊢;try w_num
 u_c stepG_region_end Ext.rely c
 u_c stepG_seq Ext.rely c
 u_reg Ext.rely c
 refine Goes.stop fun Q e=>⟨rfl,fun p f=>?_⟩;replace c:=(c.rely e).rely f;clear e f;refine goes_oper_k rfl rfl (by k_ne) (fun j d=>?_);have l:=Ext.cell c 2 rfl rfl;(try simp only[gb]at l);go_simp;refine d _ _ ⟨⟨aV _,fun o k=>by have h:=mem_listed k;clear d;simp[go_sem,l]at h;subst h;exact⟨xB (i:=2) c (by show _<_;simp only[iW,kI];omega) (by omega) false _ (aV _),by simp,by simp⟩⟩,nA (n:=9) ?_⟩;clear d j l;refine Goes.stop fun Q e=>⟨rfl,fun p f=>?_⟩;replace c:=(c.rely e).rely f;clear e f;refine goes_oper_k rfl rfl (by k_ne) (fun j d=>?_);have l:=Ext.cell c 3 rfl rfl;(try simp only[gb]at l);go_simp;refine d _ _ ⟨⟨aV _,fun o k=>by have h:=mem_listed k;clear d;simp[go_sem,l]at h;subst h;exact⟨xB (i:=3) c (by show _<_;simp only[iW,kI];omega) (by omega) false _ (aV _),by simp,by simp⟩⟩,nA (n:=9) ?_⟩;clear d j l
 u_op Ext.rely c
 refine Goes.stop fun Q e=>⟨rfl,fun p f=>?_⟩;replace c:=(c.rely e).rely f;clear e f;refine goes_oper_k rfl rfl (by k_ne) (fun j d=>?_);go_simp;refine d _ _ ⟨⟨xz _ _,fun o k=>by have h:=mem_listed k;clear d;simp[go_sem,storedEv]at h⟩,nA (n:=9) ?_⟩;clear d j;replace c:=Ext.alloc c (.cells #[.int .u32 0] 43);rw[Ext.xA c];simp only[jK,nh,iW,kI,gb,cM,Nat.reduceAdd]at c⊢;try w_num
 refine Goes.stop fun Q e=>⟨rfl,fun p f=>?_⟩;replace c:=(c.rely e).rely f;clear e f;refine goes_oper_k rfl rfl (by k_ne) (fun j d=>?_);have l:=Ext.cell c 5 rfl rfl;have q:=Ext.thaw c 5 rfl;(try simp only[gb]at l q);go_simp;refine d _ _ ⟨⟨pI (aside_setCell _ _ _).size.symm,fun o k=>by have h:=mem_listed k;clear d;simp[go_sem,storedEv,l,q]at h;subst h;exact⟨xB (i:=5) c (by show _<_;simp only[iW,kI];omega) (by omega) true _ (pI (aside_setCell _ _ _).size.symm),by simp,by simp⟩⟩,nA (n:=9) ?_⟩;clear d j l q;replace c:=Ext.store c 5 rfl (.int .u32 V);simp only[List.set,anU,V2]at c
 u_c stepG_region_end Ext.rely c
 u_c stepG_seq Ext.rely c
 u_reg Ext.rely c
 refine Goes.stop fun Q e=>⟨rfl,fun p f=>?_⟩;replace c:=(c.rely e).rely f;clear e f;refine goes_oper_k rfl rfl (by k_ne) (fun j d=>?_);have l:=Ext.cell c 5 rfl rfl;(try simp only[gb]at l);go_simp;refine d _ _ ⟨⟨aV _,fun o k=>by have h:=mem_listed k;clear d;simp[go_sem,l]at h;subst h;exact⟨xB (i:=5) c (by show _<_;simp only[iW,kI];omega) (by omega) false _ (aV _),by simp,by simp⟩⟩,nA (n:=9) ?_⟩;clear d j l
 u_op Ext.rely c
 refine Goes.stop fun Q e=>⟨rfl,fun p f=>?_⟩;replace c:=(c.rely e).rely f;clear e f;refine goes_oper_k rfl rfl (by k_ne) (fun j d=>?_);go_simp;refine d _ _ ⟨⟨xz _ _,fun o k=>by have h:=mem_listed k;clear d;simp[go_sem,storedEv]at h⟩,nA (n:=9) ?_⟩;clear d j;replace c:=Ext.alloc c (.cells #[.int .u32 0] 43);rw[Ext.xA c];simp only[jK,nh,iW,kI,gb,cM,Nat.reduceAdd]at c⊢;try w_num
 refine Goes.stop fun Q e=>⟨rfl,fun p f=>?_⟩;replace c:=(c.rely e).rely f;clear e f;refine goes_oper_k rfl rfl (by k_ne) (fun j d=>?_);have l:=Ext.cell c 6 rfl rfl;have q:=Ext.thaw c 6 rfl;(try simp only[gb]at l q);go_simp;refine d _ _ ⟨⟨pI (aside_setCell _ _ _).size.symm,fun o k=>by have h:=mem_listed k;clear d;simp[go_sem,storedEv,l,q]at h;subst h;exact⟨xB (i:=6) c (by show _<_;simp only[iW,kI];omega) (by omega) true _ (pI (aside_setCell _ _ _).size.symm),by simp,by simp⟩⟩,vk (n:=30) ?_⟩;clear d j l q;replace c:=Ext.store c 6 rfl (.int .u32 W);simp only[List.set,anU,V2]at c
 u_c stepG_region_end Ext.rely c
 u_c stepG_seq Ext.rely c
 u_reg Ext.rely c
 u_in Ext.rely c;refine goes_oper_k rfl rfl (by k_ne) (fun j d=>?_);go_simp;refine d _ _ ⟨dc0_none fun o k=>by have h:=mem_listed k;clear d;simp[go_sem,Instr.makeFunc]at h,?_⟩;clear d j
 u_op Ext.rely c
 u_c stepG_region_end Ext.rely c
 u_c stepG_seq Ext.rely c
 u_reg Ext.rely c
 u_op Ext.rely c
 u_c stepG_region_end Ext.rely c
 u_c stepG_block Ext.rely c
 u_c stepG_loop Ext.rely c
 exact Goes.stop fun Q e=>⟨_,rfl,⟨rfl,rfl,rfl,rfl,rfl,rfl,rfl,rfl,rfl,rfl⟩,c.rely e⟩
end
section
variable{Sh:Loc→Prop}{Wg n0:Nat}{n S tm:Int}{cs:List Frame}
def Cg(b:Nat)(v:Value)(w0 w:World):Prop:=AtRel w0 w∧w.heap[b]? =some (.cells #[v] 43)
def gj{w0 w:World}(h:Cg b v w0 w)(r:AtRel w Q):Cg b v w0 Q:=⟨mP _ _ _ h.1 r,by obtain⟨d,rfl⟩:=r;exact h.2⟩
def OW{w0 w:World}(h:Cg b v w0 w):w.cell? ⟨b,0,none⟩=some v:=by simp[World.cell?,h.2]
def fU{w0 w:World}(h:AtRel w0 w)(r:AtRel w Q):AtRel w0 Q:=mP _ _ _ h r
def Ch(T:Array Value)(cs:List Frame):Goroutine:=G ((base 33).at ((⟨T,[]⟩:Act).put ((mR[0]?).bind (·.dst)) (.tuple #[])) (.inRegion mR []::ki)) cs
def XW{T:Array Value}(A:TS n0 n T)(F:n<tm)(w:World)(h:w.heap[n0+1]? =some (.cells #[.int .u32 tm] 43))(B:¬Sh (.cell ⟨n0+1,0,none⟩))(C:n0+1≠Wg):
 rZ Tryz.prog Sh Wg (fun g w'=>(∃d,g=r4 d cs∧TS n0 n d∧d[14]? =some (.int .u32 0))∧AtRel w w') (vl T cs) w:=by
 obtain⟨i,j,k,l,o,p,q,r,s,u⟩:=A;obtain⟨f,rfl⟩:=r3 T i;simp only[rK,s9,rL,aD]at j k l o p q r s u;clear i;have a:Cg (n0+1) (.int .u32 tm) w w:=⟨AtRel.refl w,h⟩;clear h;refine nA (n:=9) ?_;simp only[iZ,vl,pV,ki,j9,lR,nC,kg,lQ,pU,Tryz.f33,ij,dQ,j7,j8,nB,opsOf,cA,mS,oT,nD,qJ,mR]at *;simp only[j,k,l,o,p,q,r,s,u]
 u_c stepG_seq gj a
 u_c stepG_seq gj a
 u_reg gj a
 u_op gj a
 refine Goes.stop fun Q c=>⟨rfl,fun H x=>?_⟩;replace a:=gj (gj a c) x;clear c x;refine goes_oper_k rfl rfl (by k_ne) (fun D e=>?_);have y:=OW a;go_simp;refine e _ _ ⟨⟨aV _,fun I E=>by have z:=mem_listed E;clear e;simp[go_sem,y]at z;subst z;exact⟨IS false C B (dX.1 a.2).1,by simp,by simp⟩⟩,vk (n:=40) ?_⟩;clear e D y
 u_op gj a
 u_c stepG_region_end gj a
 u_cnd true gj a
 u_c stepG_skip gj a
 u_c stepG_seq gj a
 u_c stepG_block gj a
 u_c stepG_seq gj a
 u_reg gj a
 u_op gj a
 u_c stepG_region_end gj a
 u_c stepG_block gj a
 u_c stepG_loop gj a
 exact Goes.stop fun Q c=>⟨⟨_,rfl,⟨rfl,rfl,rfl,rfl,rfl,rfl,rfl,rfl,rfl,rfl⟩,rfl⟩,(gj a c).1⟩
def XX{T:Array Value}(z:TS n0 n T)(F:¬n<tm)(w:World)(e:w.heap[n0+1]? =some (.cells #[.int .u32 tm] 43))(A:¬Sh (.cell ⟨n0+1,0,none⟩))(B:n0+1≠Wg):
 rZ Tryz.prog Sh Wg (fun g w'=>(∃C,g=zS C cs)∧AtRel w w') (vl T cs) w:=by
 obtain⟨h,i,j,k,l,o,p,q,r,s⟩:=z;obtain⟨f,rfl⟩:=r3 T h;simp only[rK,s9,rL,aD]at i j k l o p q r s;clear h;have a:Cg (n0+1) (.int .u32 tm) w w:=⟨AtRel.refl w,e⟩;clear e;refine nA (n:=9) ?_;simp only[iZ,vl,pV,ki,j9,lR,nC,kg,lQ,pU,Tryz.f33,ij,dQ,j7,j8,nB,opsOf,cA,mS,oT,nD,qJ,mR]at *;simp only[i,j,k,l,o,p,q,r,s]
 u_c stepG_seq gj a
 u_c stepG_seq gj a
 u_reg gj a
 u_op gj a
 refine Goes.stop fun Q c=>⟨rfl,fun H u=>?_⟩;replace a:=gj (gj a c) u;clear c u;refine goes_oper_k rfl rfl (by k_ne) (fun D d=>?_);have x:=OW a;go_simp;refine d _ _ ⟨⟨aV _,fun I E=>by have y:=mem_listed E;clear d;simp[go_sem,x]at y;subst y;exact⟨IS false B A (dX.1 a.2).1,by simp,by simp⟩⟩,vk (n:=40) ?_⟩;clear d D x
 u_op gj a
 u_c stepG_region_end gj a
 u_cnd false gj a
 u_exit gj a
 u_c stepG_end gj a
 exact Goes.stop fun Q c=>⟨⟨_,rfl⟩,(gj a c).1⟩
def XY{T:Array Value}(s:TS n0 n T)(d:T[14]? =some (.int .u32 S))(x:S<4)(w:World):
 rZ Tryz.prog Sh Wg (fun g w'=>(∃c,g=zR c cs∧TS n0 n c∧c[14]? =some (.int .u32 S))∧AtRel w w') (r4 T cs) w:=by
 obtain⟨e,h,i,j,k,l,o,p,q,r⟩:=s;obtain⟨f,rfl⟩:=r3 T e;simp only[rK,s9,rL,aD]at h i j k l o p q r d;clear e;have a:AtRel w w:=AtRel.refl w;refine vk (n:=40) ?_;simp only[iZ,r4,pV,ki,j9,lR,nC,kg,lQ,pU,Tryz.f33,ij,dQ,j7,j8,nB,opsOf,cA,mS,oT,nD,qJ,mR]at *;simp only[h,i,j,k,l,o,p,q,r,d]
 u_c stepG_seq fU a
 u_c stepG_seq fU a
 u_reg fU a
 iterate 2 (u_op fU a)
 u_c stepG_region_end fU a
 u_cnd true fU a
 u_c stepG_skip fU a
 u_c stepG_seq fU a
 u_c stepG_block fU a
 u_c stepG_seq fU a
 u_reg fU a
 exact Goes.stop fun Q u=>⟨⟨_,rfl,⟨rfl,rfl,rfl,rfl,rfl,rfl,rfl,rfl,rfl,rfl⟩,rfl⟩,fU a u⟩
def XZ{T:Array Value}(s:TS n0 n T)(c:T[14]? =some (.int .u32 S))(x:¬S<4)(y:IntKind.u32.wrap (n+1)=n+1)(w:World):
 rZ Tryz.prog Sh Wg (fun g w'=>(∃d,g=vl d cs∧TS n0 (n+1) d)∧AtRel w w') (r4 T cs) w:=by
 obtain⟨e,h,i,j,k,l,o,p,q,r⟩:=s;obtain⟨f,rfl⟩:=r3 T e;simp only[rK,s9,rL,aD]at h i j k l o p q r c;clear e;have a:AtRel w w:=AtRel.refl w;refine vk (n:=40) ?_;simp only[iZ,r4,pV,ki,j9,lR,nC,kg,lQ,pU,Tryz.f33,ij,dQ,j7,j8,nB,opsOf,cA,mS,oT,nD,qJ,mR]at *;simp only[h,i,j,k,l,o,p,q,r,c]
 u_c stepG_seq fU a
 u_c stepG_seq fU a
 u_reg fU a
 iterate 2 (u_op fU a)
 u_c stepG_region_end fU a
 u_cnd false fU a
 u_exit fU a
 u_c stepG_inBlock fU a
 u_reg fU a
 iterate 3 (u_op fU a)
 u_c stepG_region_end fU a
 u_c stepG_inLoop fU a
 exact Goes.stop fun Q u=>⟨⟨_,rfl,⟨rfl,rfl,rfl,rfl,rfl,rfl,rfl,rfl,rfl,rfl⟩⟩,fU a u⟩
def slice3{T:Array Value}(s:TS n0 n T)(d:T[14]? =some (.int .u32 S))(x:IntKind.u32.wrap (S+1)=S+1)(w:World):
 rZ Tryz.prog Sh Wg (fun g w'=>(∃c,g=r4 c cs∧TS n0 n c∧c[14]? =some (.int .u32 (S+1)))∧AtRel w w') (Ch T cs) w:=by
 obtain⟨e,h,i,j,k,l,o,p,q,r⟩:=s;obtain⟨f,rfl⟩:=r3 T e;simp only[rK,s9,rL,aD]at h i j k l o p q r d;clear e;have a:AtRel w w:=AtRel.refl w;refine vk (n:=40) ?_;simp only[iZ,Ch,pV,ki,j9,lR,nC,kg,lQ,pU,Tryz.f33,ij,dQ,j7,j8,nB,opsOf,cA,mS,oT,nD,qJ,mR]at *;simp only[h,i,j,k,l,o,p,q,r,d]
 walk_nrm
 u_c stepG_region_end fU a
 u_c stepG_inBlock fU a
 u_reg fU a
 iterate 3 (u_op fU a)
 u_c stepG_region_end fU a
 u_c stepG_inLoop fU a
 exact Goes.stop fun Q u=>⟨⟨_,rfl,⟨rfl,rfl,rfl,rfl,rfl,rfl,rfl,rfl,rfl,rfl⟩,rfl⟩,fU a u⟩
end
end
end Go.Proofs.YtcminalaicidiaaGreatDoor
end

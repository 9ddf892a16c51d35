/- An interpreter of the model's code over abstract values, proved sound, and a walk in company by it: part of the proof of FnArgon2Start. No condition. -/
import Derived.Orders
import Derived.CheckFast
import Derived.Laws.Sem
import Derived.Conc.Neutral
import Derived.Conc.Listed
import Derived.Conc.Own5
import Derived.IntWalk
import Derived.Conc.Pipeline
import Derived.Conc.FxEnd
import Derived.Conc.CrowdBase
set_option linter.unusedVariables false
set_option linter.unusedSectionVars false
set_option linter.unusedSimpArgs false
namespace Go.Eng
section
theorem bq:(∀ a b:Bool,((a && b) = true) = (a = true ∧ b = true)) ∧ (∀ (p:Prop) [Decidable p],(decide p = true) = p) ∧ (∀ (α:Type) [BEq α] [LawfulBEq α] (a b:α),(a == b) = true ↔ a = b) ∧ (∀ b:Bool,(b == true) = b) ∧ (∀ b:Bool,(b == false) = !b) ∧ (∀ b:Bool,((!b) = true) = (b = false)) ∧ (∀ (p:Prop) [Decidable p],(decide p = false) ↔ ¬p) ∧ (∀ (α:Type) [BEq α] [LawfulBEq α] (a b:α),(a == b) = false ↔ a ≠ b) ∧ (∀ (α:Type) (a b:α),(a ≠ b) = ¬(a = b)) ∧ (∀ b:Bool,((!b) = false) = (b = true)) ∧ (∀ (α:Type) [BEq α] [LawfulBEq α] (a b:α),(a != b) = true ↔ a ≠ b) ∧ (∀ p:Prop,(True ∧ p) = p) ∧ (∀ p:Prop,(p ∧ True) = p):=
 ⟨by simp,by simp,fun _ _ _ _ _=>beq_iff_eq,by simp,by simp,by simp,by simp,fun _ _ _ _ _=>beq_eq_false_iff_ne,by simp,by simp,fun _ _ _ _ _=>bne_iff_ne,by simp,by simp⟩
inductive Z where
 | c (n:Int)
 | s (n:Int)
def Z.v:Z → Int
 | .c n=>n
 | .s n=>n
inductive B where
 | c (b:Bool)
 | s (b:Bool)
def B.v:B → Bool
 | .c b=>b
 | .s b=>b
inductive N where
 | c (n:Nat)
 | s (n:Nat)
def N.v:N → Nat
 | .c n=>n
 | .s n=>n
inductive Num where
 | int (k:IntKind) (z:Z)
 | w8 (x:BitVec 8)
 | w16 (x:BitVec 16)
 | w32 (x:BitVec 32)
 | w64 (x:BitVec 64)
inductive Ref where
 | ptr (b:Nat) (o:N)
 | gp (g:Nat) (o:N)
 | sl (b:Nat) (o l:N) (cap:Option N)
 | gs (g:Nat) (o l:N)
 | sm (b:Nat) (l:N) (s:Nat)
inductive Atom where
 | undef
 | bool (b:B)
 | str (s:ByteArray)
 | nilp
 | nils
 | nili
 | nilf
 | exact (v:Value)
inductive Tag where
 | tup
 | ifc (t:Nat)
 | fn (f:Fn) (first:Nat)
inductive AV where
 | num (n:Num)
 | ref (r:Ref)
 | atom (a:Atom)
 | agg (xs:List AV)
 | obj (t:Tag) (xs:List AV)
abbrev AV.undef:AV:=.atom .undef
abbrev AV.bool (b:B):AV:=.atom (.bool b)
abbrev AV.int (k:IntKind) (z:Z):AV:=.num (.int k z)
abbrev AV.w8 (x:BitVec 8):AV:=.num (.w8 x)
abbrev AV.w16 (x:BitVec 16):AV:=.num (.w16 x)
abbrev AV.w32 (x:BitVec 32):AV:=.num (.w32 x)
abbrev AV.w64 (x:BitVec 64):AV:=.num (.w64 x)
abbrev AV.str (s:ByteArray):AV:=.atom (.str s)
abbrev AV.ptr (b:Nat) (o:N):AV:=.ref (.ptr b o)
abbrev AV.gp (g:Nat) (o:N):AV:=.ref (.gp g o)
abbrev AV.sm (b:Nat) (l:N) (s:Nat):AV:=.ref (.sm b l s)
abbrev AV.sl (b:Nat) (o l:N) (cap:Option N):AV:=.ref (.sl b o l cap)
abbrev AV.nilp:AV:=.atom .nilp
abbrev AV.nils:AV:=.atom .nils
abbrev AV.nili:AV:=.atom .nili
abbrev AV.nilf:AV:=.atom .nilf
abbrev AV.exact (v:Value):AV:=.atom (.exact v)
abbrev AV.tup (xs:List AV):AV:=.obj .tup xs
abbrev AV.ifc (t:Nat) (v:AV):AV:=.obj (.ifc t) [v]
abbrev AV.fn (f:Fn) (first captured:List AV):AV:=.obj (.fn f first.length) (first ++ captured)
structure Vec (w:Nat) where
 n:Nat
 l:List (BitVec w)
 h:l.length = n
def Vec.of {w:Nat} (l:List (BitVec w)):Vec w:=⟨l.length,l,rfl⟩
def Vec.set {w:Nat} (v:Vec w) (o:Nat) (x:BitVec w):Vec w:=⟨v.n,v.l.set o x,by rw [List.length_set];exact v.h⟩
def Vec.app {w:Nat} (v u:Vec w):Vec w:=⟨v.n + u.n,v.l ++ u.l,by rw [List.length_append,v.h,u.h]⟩
def Vec.sub {w:Nat} (v:Vec w) (o m:Nat):Vec w:=⟨m,(v.l.drop o ++ List.replicate m 0).take m,by simp⟩
theorem Vec.sub_l {w:Nat} {v:Vec w} {o m:Nat} (h:o + m ≤ v.n):(v.sub o m).l = (v.l.drop o).take m:=by
 have:=v.h
 show (v.l.drop o ++ List.replicate m 0).take m = _
 rw [List.take_append_of_le_length (by rw [List.length_drop];omega)]
def setL {α:Type}:List α → Nat → List α → List α
 | l,_,[]=>l
 | l,o,x :: xs=>setL (l.set o x) (o + 1) xs
theorem setL_len {α:Type}:∀ (xs l:List α) (o:Nat),(setL l o xs).length = l.length
 | [],_,_=>rfl
 | x :: xs,l,o=>by rw [setL,setL_len xs,List.length_set]
def Vec.over {w:Nat} (v:Vec w) (o:Nat) (u:Vec w):Vec w:=⟨v.n,setL v.l o u.l,by rw [setL_len];exact v.h⟩
def Vec.zero (w n:Nat):Vec w:=⟨n,List.replicate n 0,by simp⟩
inductive Data where
 | gen (l:List AV)
 | b8 (l:Vec 8)
 | b32 (l:Vec 32)
 | b64 (l:Vec 64)
 | spot (n K:Nat) (x:AV)
 | kn (l:List Value) (t:List AV)
inductive Mode where
 | ro | own | dead
structure Blk where
 data:Data
 mode:Mode
structure St where
 H:List Blk
 low:Nat
 dec:List Bool
 cond:List Bool
def St.demand (S:St) (b:Bool):St:={ S with cond:=b :: S.cond }
def intLe:Int → Int → Bool
 | .ofNat a,.ofNat b=>Nat.ble a b
 | .ofNat _,.negSucc _=>false
 | .negSucc _,.ofNat _=>true
 | .negSucc a,.negSucc b=>Nat.ble b a
def intEq:Int → Int → Bool
 | .ofNat a,.ofNat b=>Nat.beq a b
 | .ofNat _,.negSucc _=>false
 | .negSucc _,.ofNat _=>false
 | .negSucc a,.negSucc b=>Nat.beq b a
def intLt (a b:Int):Bool:=intLe (a + 1) b
def kindEq:IntKind → IntKind → Bool
 | .i8,.i8 | .i16,.i16 | .i32,.i32 | .i64,.i64 | .u8,.u8 | .u16,.u16 | .u32,.u32 | .u64,.u64=>true
 | _,_=>false
def lo:IntKind → Int
 | .i8=>-128
 | .i16=>-32768
 | .i32=>-2147483648
 | .i64=>-9223372036854775808
 | _=>0
def hi:IntKind → Int
 | .i8=>127
 | .i16=>32767
 | .i32=>2147483647
 | .i64=>9223372036854775807
 | .u8=>255
 | .u16=>65535
 | .u32=>4294967295
 | .u64=>18446744073709551615
def wrapF (k:IntKind) (n:Int):Int:=
 match intLe (lo k) n with
 | true=>
  match intLe n (hi k) with
  | true=>n
  | false=>k.wrap n
 | false=>k.wrap n
def B.test (b:B) (S:St):Option (Bool × St):=
 match b with
 | .c b=>some (b,S)
 | .s b=>
  match S.dec with
  | d :: r=>some (d,{ S with dec:=r,cond:=(b == d) :: S.cond })
  | []=>none
def B.claim (b:B) (S:St):Option St:=
 match b with
 | .c b=>
  match b with
  | true=>some S
  | false=>none
 | .s b=>some (S.demand b)
def B.and (x y:B):B:=
 match x with
 | .c a=>
  match y with
  | .c b=>.c (a && b)
  | .s b=>.s (a && b)
 | .s a=>.s (a && y.v)
def B.not:B → B
 | .c b=>.c !b
 | .s b=>.s !b
def Z.lt (x y:Z):B:=
 match x with
 | .c a=>
  match y with
  | .c b=>.c (intLt a b)
  | .s b=>.s (decide (a < b))
 | .s a=>.s (decide (a < y.v))
def Z.le (x y:Z):B:=
 match x with
 | .c a=>
  match y with
  | .c b=>.c (intLe a b)
  | .s b=>.s (decide (a ≤ b))
 | .s a=>.s (decide (a ≤ y.v))
def Z.eq (x y:Z):B:=
 match x with
 | .c a=>
  match y with
  | .c b=>.c (intEq a b)
  | .s b=>.s (a == b)
 | .s a=>.s (a == y.v)
def N.le (x y:N):B:=
 match x with
 | .c a=>
  match y with
  | .c b=>.c (Nat.ble a b)
  | .s b=>.s (decide (a ≤ b))
 | .s a=>.s (decide (a ≤ y.v))
def N.eq (x y:N):B:=
 match x with
 | .c a=>
  match y with
  | .c b=>.c (Nat.beq a b)
  | .s b=>.s (a == b)
 | .s a=>.s (a == y.v)
def N.toZ:N → Z
 | .c n=>.c n
 | .s n=>.s n
def Z.toN:Z → N
 | .c n=>.c n.toNat
 | .s n=>.s n.toNat
def N.map2 (f:Nat → Nat → Nat) (x y:N):N:=
 match x with
 | .c a=>
  match y with
  | .c b=>.c (f a b)
  | .s b=>.s (f a b)
 | .s a=>.s (f a y.v)
def N.add (a b:N):N:=N.map2 Nat.add a b
def N.sub (a b:N):N:=N.map2 Nat.sub a b
def N.min (a b:N):N:=N.map2 Nat.min a b
def N.mulc (a:N) (n:Nat):N:=
 match a with
 | .c x=>.c (x * n)
 | .s x=>.s (x * n)
def bvOf (n:Nat) (k k':IntKind) (x:Int):Option (BitVec n):=
 match kindEq k k' with
 | false=>none
 | true=>
  match x with
  | .ofNat x=>
   match Nat.blt x (2 ^ n) with
   | true=>some (BitVec.ofNat n x)
   | false=>none
  | .negSucc _=>none
def Num.bv8 (v:Num):Option (BitVec 8):=
 match v with
 | .w8 x=>some x
 | .int k z=>
  match z with
  | .c x=>bvOf 8 .u8 k x
  | .s _=>none
 | _=>none
def AV.bv8 (v:AV):Option (BitVec 8):=
 match v with
 | .num n=>n.bv8
 | _=>none
def Num.bv16 (v:Num):Option (BitVec 16):=
 match v with
 | .w16 x=>some x
 | .int k z=>
  match z with
  | .c x=>bvOf 16 .u16 k x
  | .s _=>none
 | _=>none
def AV.bv16 (v:AV):Option (BitVec 16):=
 match v with
 | .num n=>n.bv16
 | _=>none
def Num.bv32 (v:Num):Option (BitVec 32):=
 match v with
 | .w32 x=>some x
 | .int k z=>
  match z with
  | .c x=>bvOf 32 .u32 k x
  | .s _=>none
 | _=>none
def AV.bv32 (v:AV):Option (BitVec 32):=
 match v with
 | .num n=>n.bv32
 | _=>none
def Num.bv64 (v:Num):Option (BitVec 64):=
 match v with
 | .w64 x=>some x
 | .int k z=>
  match z with
  | .c x=>bvOf 64 .u64 k x
  | .s _=>none
 | _=>none
def AV.bv64 (v:AV):Option (BitVec 64):=
 match v with
 | .num n=>n.bv64
 | _=>none
def Num.z (v:Num):Z:=
 match v with
 | .int _ z=>z
 | .w8 x=>.s x.toNat
 | .w16 x=>.s x.toNat
 | .w32 x=>.s x.toNat
 | .w64 x=>.s x.toNat
def AV.nm (v:AV):Option Z:=
 match v with
 | .num n=>some n.z
 | _=>none
def absV:Value → AV
 | .bool b=>.bool (.c b)
 | .int k n=>.int k (.c n)
 | .string s=>.str s
 | .pointer none=>.nilp
 | .slice none 0 0=>.nils
 | .nilIface=>.nili
 | .nilFunc=>.nilf
 | .agg ⟨l⟩=>.agg (absL l)
 | .tuple ⟨l⟩=>.tup (absL l)
 | _=>.undef
 where absL:List Value → List AV
 | []=>[]
 | v :: r=>absV v :: absL r
def cmpZ (op:BinOp):Option (Z → Z → B):=
 match op with
 | .eql=>some fun a b=>a.eq b
 | .neq=>some fun a b=>(a.eq b).not
 | .lss=>some fun a b=>a.lt b
 | .leq=>some fun a b=>a.le b
 | .gtr=>some fun a b=>b.lt a
 | .geq=>some fun a b=>b.le a
 | _=>none
inductive WOp where
 | word (f:(n:Nat) → BitVec n → BitVec n → BitVec n)
 | div (f:(n:Nat) → BitVec n → BitVec n → BitVec n)
 | test (f:(n:Nat) → BitVec n → BitVec n → Bool)
 | no
def wOp (op:BinOp):WOp:=
 match op with
 | .add=>.word fun _ x y=>x + y
 | .sub=>.word fun _ x y=>x - y
 | .mul=>.word fun _ x y=>x * y
 | .quo=>.div fun _ x y=>x / y
 | .rem=>.div fun _ x y=>x % y
 | .and=>.word fun _ x y=>x &&& y
 | .or=>.word fun _ x y=>x ||| y
 | .xor=>.word fun _ x y=>x ^^^ y
 | .andNot=>.word fun _ x y=>x &&& ~~~y
 | .eql=>.test fun _ x y=>x == y
 | .neq=>.test fun _ x y=>x != y
 | .lss=>.test fun _ x y=>decide (x.toNat < y.toNat)
 | .leq=>.test fun _ x y=>decide (x.toNat ≤ y.toNat)
 | .gtr=>.test fun _ x y=>decide (y.toNat < x.toNat)
 | .geq=>.test fun _ x y=>decide (y.toNat ≤ x.toNat)
 | _=>.no
def bvOp (op:BinOp) (n:Nat) (mk:BitVec n → AV) (x y:BitVec n) (S:St):Option (AV × St):=
 match wOp op with
 | .word f=>some (mk (f n x y),S)
 | .div f=>some (mk (f n x y),S.demand (y != 0))
 | .test f=>some (.bool (.s (f n x y)),S)
 | .no=>none
def bvBin {n:Nat} (mk:BitVec n → AV) (op:BinOp) (x y:Option (BitVec n)) (S:St):Option (AV × St):=
 match x with
 | none=>none
 | some x=>
  match y with
  | none=>none
  | some y=>bvOp op n mk x y S
def wSh (op:BinOp):Option ((n:Nat) → BitVec n → Nat → BitVec n):=
 match op with
 | .shl=>some fun _ x s=>x <<< s
 | .shr=>some fun _ x s=>x >>> s
 | _=>none
def bvSh (op:BinOp) (n:Nat) (mk:BitVec n → AV) (x:BitVec n) (s:Nat) (S:St):Option (AV × St):=
 match wSh op with
 | some f=>some (mk (f n x s),S)
 | none=>none
def bvShift {n:Nat} (mk:BitVec n → AV) (op:BinOp) (x:BitVec n) (s:Z) (S:St):Option (AV × St):=
 match ((Z.c 0).le s).claim S with
 | none=>none
 | some S=>bvSh op n mk x s.v.toNat S
def bitsF (k:IntKind) (slow:Unit → Int) (f:Nat → Nat → Nat) (a b:Int):Int:=
 match a with
 | .ofNat x=>
  match b with
  | .ofNat y=>
   match intLe a (hi k) with
   | true=>
    match intLe b (hi k) with
    | true=>.ofNat (f x y)
    | false=>slow ()
   | false=>slow ()
  | .negSucc _=>slow ()
 | .negSucc _=>slow ()
def arithC (op:BinOp):Option (IntKind → Int → Int → Option Z):=
 match op with
 | .add=>some fun k a b=>some (.c (wrapF k (a + b)))
 | .sub=>some fun k a b=>some (.c (wrapF k (a - b)))
 | .mul=>some fun k a b=>some (.c (wrapF k (a * b)))
 | .quo=>some fun k a b=>match intEq b 0 with | true=>none | false=>some (.c (wrapF k (a.tdiv b)))
 | .rem=>some fun _ a b=>match intEq b 0 with | true=>none | false=>some (.c (a.tmod b))
 | .and=>some fun k a b=>some (.c (bitsF k (fun _=>k.wrap (BitVec.ofInt k.bits a &&& BitVec.ofInt k.bits b).toNat) Nat.land a b))
 | .or=>some fun k a b=>some (.c (bitsF k (fun _=>k.wrap (BitVec.ofInt k.bits a ||| BitVec.ofInt k.bits b).toNat) Nat.lor a b))
 | .xor=>some fun k a b=>some (.c (bitsF k (fun _=>k.wrap (BitVec.ofInt k.bits a ^^^ BitVec.ofInt k.bits b).toNat) Nat.xor a b))
 | .andNot=>some fun k a b=>some (.c (k.wrap (BitVec.ofInt k.bits a &&& ~~~ BitVec.ofInt k.bits b).toNat))
 | _=>none
def andV (k:IntKind) (a b:Int):Int:=k.wrap (BitVec.ofInt k.bits a &&& BitVec.ofInt k.bits b).toNat
def andNotV (k:IntKind) (a b:Int):Int:=k.wrap (BitVec.ofInt k.bits a &&& ~~~ BitVec.ofInt k.bits b).toNat
def orV (k:IntKind) (a b:Int):Int:=k.wrap (BitVec.ofInt k.bits a ||| BitVec.ofInt k.bits b).toNat
def shlV (k:IntKind) (a:Int) (n:Nat):Int:=k.wrap (a * 2 ^ n)
def arithS (op:BinOp):Option (IntKind → Int → Int → St → AV × St):=
 match op with
 | .add=>some fun k a b S=>(.int k (.s (a + b)),S.demand (decide (lo k ≤ a + b ∧ a + b ≤ hi k)))
 | .sub=>some fun k a b S=>(.int k (.s (a - b)),S.demand (decide (lo k ≤ a - b ∧ a - b ≤ hi k)))
 | .mul=>some fun k a b S=>(.int k (.s (a * b)),S.demand (decide (lo k ≤ a * b ∧ a * b ≤ hi k)))
 | .quo=>some fun k a b S=>(.int k (.s (a.tdiv b)),S.demand (decide (0 ≤ a ∧ 0 < b ∧ a ≤ hi k)))
 | .rem=>some fun k a b S=>(.int k (.s (a.tmod b)),S.demand (decide (b ≠ 0)))
 | .and=>some fun k a b S=>(.int k (.s (andV k a b)),S.demand (decide (0 ≤ b)))
 | .andNot=>some fun k a b S=>(.int k (.s (andNotV k a b)),S.demand (decide (0 ≤ b)))
 | .or=>some fun k a b S=>(.int k (.s (orV k a b)),S.demand (decide (lo k ≤ 0)))
 | .xor=>some fun k a b S=>(.int k (.s ((a.toNat ^^^ b.toNat:Nat))),S.demand (decide (0 ≤ a ∧ 0 ≤ b ∧ a ≤ hi k ∧ b ≤ hi k)))
 | _=>none
def arithSE (op:BinOp) (k:IntKind) (a b:Int) (S:St):Option (AV × St):=
 match arithS op with
 | some f=>some (f k a b S)
 | none=>none
def intArith (op:BinOp) (k:IntKind) (x y:Z) (S:St):Option (AV × St):=
 match cmpZ op with
 | some f=>some (.bool (f x y),S)
 | none=>
  match x with
  | .c a=>
   match y with
   | .c b=>
    match arithC op with
    | some f=>
     match f k a b with
     | some z=>some (.int k z,S)
     | none=>none
    | none=>none
   | .s b=>arithSE op k a b S
  | .s a=>
   match y with
   | .c b=>arithSE op k a b S
   | .s b=>arithSE op k a b S
def shiftC (op:BinOp) (k:IntKind) (a:Int) (n:Nat):Option Int:=
 match op with
 | .shl=>
  match a with
  | .ofNat x=>some (wrapF k (.ofNat (Nat.shiftLeft x (Nat.min n k.bits))))
  | a=>some (k.wrap (a * 2 ^ (Nat.min n k.bits)))
 | .shr=>
  match a with
  | .ofNat x=>some (.ofNat (Nat.shiftRight x (Nat.min n k.bits)))
  | a=>some (a.fdiv (2 ^ (Nat.min n k.bits)))
 | _=>none
def shiftI (k:IntKind) (z:Z) (op:BinOp) (s:Z) (S:St):Option (AV × St):=
 match s with
 | .s _=>none
 | .c b=>
  match intLe 0 b with
  | false=>none
  | true=>
   match z with
   | .c a=>
    match shiftC op k a b.toNat with
    | some r=>some (.int k (.c r),S)
    | none=>none
   | .s a=>
    match Nat.blt b.toNat k.bits with
    | false=>none
    | true=>
     match op with
     | .shl=>some (.int k (.s (shlV k a b.toNat)),S)
     | .shr=>some (.int k (.s (a / 2 ^ b.toNat)),S)
     | _=>none
def shiftOp (x:Num) (op:BinOp) (s:Z) (S:St):Option (AV × St):=
 match x with
 | .int k z=>shiftI k z op s S
 | .w8 x=>bvShift .w8 op x s S
 | .w16 x=>bvShift .w16 op x s S
 | .w32 x=>bvShift .w32 op x s S
 | .w64 x=>bvShift .w64 op x s S
def isShift:BinOp → Bool
 | .shl | .shr=>true
 | _=>false
def intOp (k:IntKind) (a:Z) (y:Num) (op:BinOp) (S:St):Option (AV × St):=
 match y with
 | .int k' b=>
  match kindEq k k' with
  | true=>intArith op k a b S
  | false=>none
 | .w8 y=>bvBin .w8 op (Num.int k a).bv8 (some y) S
 | .w16 y=>bvBin .w16 op (Num.int k a).bv16 (some y) S
 | .w32 y=>bvBin .w32 op (Num.int k a).bv32 (some y) S
 | .w64 y=>bvBin .w64 op (Num.int k a).bv64 (some y) S
def numOp (x y:Num) (op:BinOp) (S:St):Option (AV × St):=
 match x with
 | .int k a=>intOp k a y op S
 | .w8 x=>bvBin .w8 op (some x) y.bv8 S
 | .w16 x=>bvBin .w16 op (some x) y.bv16 S
 | .w32 x=>bvBin .w32 op (some x) y.bv32 S
 | .w64 x=>bvBin .w64 op (some x) y.bv64 S
def binop (op:BinOp) (x y:AV) (S:St):Option (AV × St):=
 match x with
 | .num x=>
  match y with
  | .num y=>
   match isShift op with
   | true=>shiftOp x op y.z S
   | false=>numOp x y op S
  | _=>none
 | _=>none
def convW (k:IntKind) (n:Nat) (a b c d:AV) (S:St):Option (AV × St):=
 match k with
 | .u8=>some (a,S)
 | .u16=>some (b,S)
 | .u32=>some (c,S)
 | .u64=>some (d,S)
 | k=>some (.int k (.s n),S.demand (decide ((n:Int) ≤ hi k)))
def convI (n:Int) (k:IntKind) (S:St):Option (AV × St):=
 match k with
 | .u8=>some (.w8 (BitVec.ofInt 8 n),S)
 | .u16=>some (.w16 (BitVec.ofInt 16 n),S)
 | .u32=>some (.w32 (BitVec.ofInt 32 n),S)
 | .u64=>some (.w64 (BitVec.ofInt 64 n),S)
 | k=>some (.int k (.s n),S.demand (decide (lo k ≤ n ∧ n ≤ hi k)))
def convN (v:Num) (k:IntKind) (S:St):Option (AV × St):=
 match v with
 | .int _ z=>
  match z with
  | .c n=>some (.int k (.c (wrapF k n)),S)
  | .s n=>convI n k S
 | .w8 x=>convW k x.toNat (.w8 x) (.w16 (x.setWidth 16)) (.w32 (x.setWidth 32)) (.w64 (x.setWidth 64)) S
 | .w16 x=>convW k x.toNat (.w8 (x.setWidth 8)) (.w16 x) (.w32 (x.setWidth 32)) (.w64 (x.setWidth 64)) S
 | .w32 x=>convW k x.toNat (.w8 (x.setWidth 8)) (.w16 (x.setWidth 16)) (.w32 x) (.w64 (x.setWidth 64)) S
 | .w64 x=>convW k x.toNat (.w8 (x.setWidth 8)) (.w16 (x.setWidth 16)) (.w32 (x.setWidth 32)) (.w64 x) S
def convNum (v:AV) (k:IntKind) (S:St):Option (AV × St):=
 match v with
 | .num n=>convN n k S
 | _=>none
def negN (x:Num):Option AV:=
 match x with
 | .int k z=>
  match z with
  | .c n=>some (.int k (.c (wrapF k (0 - n))))
  | .s _=>none
 | .w8 x=>some (.w8 (0#8 - x))
 | .w16 x=>some (.w16 (0#16 - x))
 | .w32 x=>some (.w32 (0#32 - x))
 | .w64 x=>some (.w64 (0#64 - x))
def comN (x:Num):Option AV:=
 match x with
 | .int k z=>
  match z with
  | .c n=>some (.int k (.c (k.wrap (BitVec.ofInt k.bits (if k.signed then -1 else k.max) ^^^ BitVec.ofInt k.bits n).toNat)))
  | .s _=>none
 | .w8 x=>some (.w8 (~~~x))
 | .w16 x=>some (.w16 (~~~x))
 | .w32 x=>some (.w32 (~~~x))
 | .w64 x=>some (.w64 (~~~x))
def unop (op:UnOp) (x:AV):Option AV:=
 match x with
 | .num n=>
  match op with
  | .neg=>negN n
  | .xor=>comN n
  | _=>none
 | .atom a=>
  match a with
  | .bool b=>
   match op with
   | .not=>some (.bool b.not)
   | _=>none
  | _=>none
 | _=>none
def lget {α:Type}:Nat → List α → Option α
 | _,[]=>none
 | 0,x :: _=>some x
 | n + 1,_ :: r=>lget n r
def lset {α:Type} (v:α):Nat → List α → List α
 | _,[]=>[]
 | 0,_ :: r=>v :: r
 | n + 1,x :: r=>x :: lset v n r
def lput {α:Type} (vs:List α):Nat → List α → Option (List α)
 | 0,l=>
  match Nat.ble vs.length l.length with
  | true=>some (vs ++ l.drop vs.length)
  | false=>none
 | _ + 1,[]=>none
 | n + 1,x :: r=>
  match lput vs n r with
  | some r=>some (x :: r)
  | none=>none
def lsub {α:Type} (n:Nat):Nat → List α → Option (List α)
 | 0,l=>
  match Nat.ble n l.length with
  | true=>some (l.take n)
  | false=>none
 | _ + 1,[]=>none
 | o + 1,_ :: r=>lsub n o r
def Data.len:Data → Nat
 | .gen l=>l.length
 | .b8 l=>l.n
 | .b32 l=>l.n
 | .b64 l=>l.n
 | .spot n _ _=>n
 | .kn l t=>l.length + t.length
def Data.lenN:Data → N
 | .gen l=>.c l.length
 | .b8 l=>.s l.n
 | .b32 l=>.s l.n
 | .b64 l=>.s l.n
 | .spot n _ _=>.s n
 | .kn l t=>.s (l.length + t.length)
def mapOpt {α β:Type} (f:α → Option β):List α → Option (List β)
 | []=>some []
 | x :: r=>
  match f x with
  | none=>none
  | some y=>
   match mapOpt f r with
   | none=>none
   | some ys=>some (y :: ys)
def Data.as8:Data → Option (Vec 8)
 | .b8 l=>some l
 | .gen l=>(mapOpt AV.bv8 l).map Vec.of
 | _=>none
def Data.as32:Data → Option (Vec 32)
 | .b32 l=>some l
 | .gen l=>(mapOpt AV.bv32 l).map Vec.of
 | _=>none
def Data.as64:Data → Option (Vec 64)
 | .b64 l=>some l
 | .gen l=>(mapOpt AV.bv64 l).map Vec.of
 | _=>none
def Data.get0 (d:Data) (o:N) (S:St):Option (AV × St):=
 match d with
 | .gen l=>
  match o with
  | .c n=>(lget n l).map (·,S)
  | .s _=>none
 | .b8 l=>some (.w8 (l.l.getD o.v 0#8),S.demand (decide (o.v < l.n)))
 | .b32 l=>some (.w32 (l.l.getD o.v 0#32),S.demand (decide (o.v < l.n)))
 | .b64 l=>some (.w64 (l.l.getD o.v 0#64),S.demand (decide (o.v < l.n)))
 | .spot n K x=>some (x,S.demand (decide (o.v = K ∧ K < n)))
 | .kn ..=>none
def Data.set0 (d:Data) (o:N) (v:AV) (S:St):Option (Data × St):=
 match d with
 | .gen l=>
  match o with
  | .c n=>
   match Nat.blt n l.length with
   | true=>some (.gen (lset v n l),S)
   | false=>none
  | .s _=>none
 | .b8 l=>v.bv8.map fun x=>(.b8 (l.set o.v x),S.demand (decide (o.v < l.n)))
 | .b32 l=>v.bv32.map fun x=>(.b32 (l.set o.v x),S.demand (decide (o.v < l.n)))
 | .b64 l=>v.bv64.map fun x=>(.b64 (l.set o.v x),S.demand (decide (o.v < l.n)))
 | .spot ..=>none
 | .kn ..=>none
def Data.sub0 (d:Data) (o n:N) (S:St):Option (Data × St):=
 match d with
 | .gen l=>
  match o with
  | .c o=>
   match n with
   | .c n=>(lsub n o l).map fun l=>(.gen l,S)
   | .s _=>none
  | .s _=>none
 | .b8 l=>some (.b8 (l.sub o.v n.v),S.demand (decide (o.v + n.v ≤ l.n)))
 | .b32 l=>some (.b32 (l.sub o.v n.v),S.demand (decide (o.v + n.v ≤ l.n)))
 | .b64 l=>some (.b64 (l.sub o.v n.v),S.demand (decide (o.v + n.v ≤ l.n)))
 | .spot ..=>none
 | .kn ..=>none
def over {α:Type} (l:List α) (o:Nat) (xs:List α):List α:=l.take o ++ xs ++ l.drop (o + xs.length)
def Data.over0 (d:Data) (o:N) (x:Data) (S:St):Option (Data × St):=
 match d with
 | .gen l=>
  match o with
  | .c o=>
   match x with
   | .gen xs=>(lput xs o l).map fun l=>(.gen l,S)
   | _=>none
  | .s _=>none
 | .b8 l=>x.as8.map fun xs=>(.b8 (l.over o.v xs),S.demand (decide (o.v + xs.n ≤ l.n)))
 | .b32 l=>x.as32.map fun xs=>(.b32 (l.over o.v xs),S.demand (decide (o.v + xs.n ≤ l.n)))
 | .b64 l=>x.as64.map fun xs=>(.b64 (l.over o.v xs),S.demand (decide (o.v + xs.n ≤ l.n)))
 | .spot ..=>none
 | .kn ..=>none
def Data.words (d:Data):Option Data:=
 match d with
 | .gen _=>
  match d.as8 with
  | some v=>some (.b8 v)
  | none=>
   match d.as32 with
   | some v=>some (.b32 v)
   | none=>
    match d.as64 with
    | some v=>some (.b64 v)
    | none=>none
 | _=>none
def skip8:List AV → List AV × List AV
 | []=>([],[])
 | x :: r=>
  match x.bv8 with
  | some _=>([],x :: r)
  | none=>
   match skip8 r with
   | (a,b)=>(x :: a,b)
def take8:List AV → List (BitVec 8) × List AV
 | []=>([],[])
 | x :: r=>
  match x.bv8 with
  | some w=>
   match take8 r with
   | (a,b)=>(w :: a,b)
  | none=>([],x :: r)
structure Mid where
 pre:List AV
 row:Vec 8
 post:List AV
def Data.mid (d:Data):Option Mid:=
 match d with
 | .gen l=>
  match skip8 l with
  | (pre,r)=>
   match take8 r with
   | (ws,post)=>some ⟨pre,Vec.of ws,post⟩
 | _=>none
def cells8 (v:Vec 8) (n:Nat):List AV:=(List.range n).map fun i=>.w8 (v.l.getD i 0#8)
def Mid.put (m:Mid) (v:Vec 8):Data:=.gen (m.pre ++ (cells8 v m.row.n ++ m.post))
def Mid.at (m:Mid) (o:N) (n:Nat) (S:St):St:=S.demand (decide (m.pre.length ≤ o.v ∧ o.v + n ≤ m.pre.length + m.row.n))
def Data.get1 (d:Data) (o:N) (S:St):Option (AV × St):=
 match d.mid with
 | some m=>some (.w8 (m.row.l.getD (o.v - m.pre.length) 0#8),m.at o 1 S)
 | none=>none
def Data.set1 (d:Data) (o:N) (v:AV) (S:St):Option (Data × St):=
 match d.mid with
 | some m=>
  match v.bv8 with
  | some x=>some (m.put (m.row.set (o.v - m.pre.length) x),m.at o 1 S)
  | none=>none
 | none=>none
def Data.sub1 (d:Data) (o n:N) (S:St):Option (Data × St):=
 match d.mid with
 | some m=>some (.b8 (m.row.sub (o.v - m.pre.length) n.v),m.at o n.v S)
 | none=>none
def Data.over1 (d:Data) (o:N) (x:Data) (S:St):Option (Data × St):=
 match d.mid with
 | some m=>
  match x.as8 with
  | some xs=>some (m.put (m.row.over (o.v - m.pre.length) xs),m.at o xs.n S)
  | none=>none
 | none=>none
def Data.get (d:Data) (o:N) (S:St):Option (AV × St):=
 match d.get0 o S with
 | some r=>some r
 | none=>
  match d.words with
  | some d=>d.get0 o S
  | none=>d.get1 o S
def Data.set (d:Data) (o:N) (v:AV) (S:St):Option (Data × St):=
 match d.set0 o v S with
 | some r=>some r
 | none=>
  match d.words with
  | some d=>d.set0 o v S
  | none=>d.set1 o v S
def Data.sub (d:Data) (o n:N) (S:St):Option (Data × St):=
 match d.sub0 o n S with
 | some r=>some r
 | none=>
  match d.words with
  | some d=>d.sub0 o n S
  | none=>d.sub1 o n S
def Data.over (d:Data) (o:N) (x:Data) (S:St):Option (Data × St):=
 match d.over0 o x S with
 | some r=>some r
 | none=>
  match d.words with
  | some d=>d.over0 o x S
  | none=>d.over1 o x S
def Data.cells0 (d:Data) (n:Nat) (o:N) (S:St):Option (List AV × St):=
 match d with
 | .gen l=>
  match o with
  | .c o=>(lsub n o l).map (·,S)
  | .s _=>none
 | .b8 v=>some ((List.range n).map (fun i=>.w8 (v.l.getD (o.v + i) 0#8)),S.demand (decide (o.v + n ≤ v.n)))
 | .b32 v=>some ((List.range n).map (fun i=>.w32 (v.l.getD (o.v + i) 0#32)),S.demand (decide (o.v + n ≤ v.n)))
 | .b64 v=>some ((List.range n).map (fun i=>.w64 (v.l.getD (o.v + i) 0#64)),S.demand (decide (o.v + n ≤ v.n)))
 | .spot ..=>none
 | .kn ..=>none
def Data.cells (d:Data) (n:Nat) (o:N) (S:St):Option (List AV × St):=
 match d.cells0 n o S with
 | some r=>some r
 | none=>
  match d.words with
  | some d=>d.cells0 n o S
  | none=>none
def Data.app (d x:Data):Option Data:=
 match d with
 | .gen l=>
  match x with
  | .gen xs=>some (.gen (l ++ xs))
  | .b8 xs=>(mapOpt AV.bv8 l).map fun l=>.b8 ((Vec.of l).app xs)
  | .b32 xs=>(mapOpt AV.bv32 l).map fun l=>.b32 ((Vec.of l).app xs)
  | .b64 xs=>(mapOpt AV.bv64 l).map fun l=>.b64 ((Vec.of l).app xs)
  | .spot ..=>none
  | .kn ..=>none
 | .b8 l=>x.as8.map fun xs=>.b8 (l.app xs)
 | .b32 l=>x.as32.map fun xs=>.b32 (l.app xs)
 | .b64 l=>x.as64.map fun xs=>.b64 (l.app xs)
 | .spot ..=>none
 | .kn l t=>
  match x with
  | .gen xs=>some (.kn l (t ++ xs))
  | _=>none
def St.read (S:St) (b:Nat):Option Data:=
 match lget b S.H with
 | some ⟨d,m⟩=>
  match m with
  | .dead=>none
  | _=>some d
 | none=>none
def St.write (S:St) (b:Nat) (d:Data):Option St:=
 match lget b S.H with
 | some ⟨_,m⟩=>
  match m with
  | .own=>some { S with H:=lset ⟨d,.own⟩ b S.H,low:=Nat.min S.low b }
  | _=>none
 | none=>none
def St.kill (S:St) (b:Nat):St:={ S with H:=lset ⟨.gen [],.dead⟩ b S.H,low:=Nat.min S.low b }
def St.new (S:St) (d:Data):Nat × St:=(S.H.length,{ S with H:=S.H ++ [⟨d,.own⟩] })
section
variable (P:Program)
def isAggT (t:TypeId):Option Bool:=
 match P.underlying t with
 | some (.struct _) | some (.array _ _)=>some true
 | some _=>some false
 | none=>none
def sizeT (t:TypeId):Option Nat:=
 match P.info? t with
 | some i=>some i.size
 | none=>none
def AV.single (v:AV):Bool:=
 match v with
 | .num _=>true
 | .ref _=>true
 | .atom a=>
  match a with
  | .undef=>false
  | .exact _=>false
  | _=>true
 | .agg _=>false
 | .obj t _=>
  match t with
  | .tup=>false
  | _=>true
def AV.row (v:AV):Option (List AV):=
 match v with
 | .agg xs=>some xs
 | v=>
  match v.single with
  | true=>some [v]
  | false=>none
def allSingle:List AV → Bool
 | []=>true
 | v :: r=>
  match v.single with
  | true=>allSingle r
  | false=>false
def zeroRow (t:TypeId):Option (List AV):=
 match P.info? t with
 | some i=>
  match i.zero with
  | some z=>
   match (absV z).row with
   | some l=>
    match Nat.beq l.length i.size with
    | true=>some l
    | false=>none
   | none=>none
  | none=>none
 | none=>none
def readCell (glob:Nat → Option (List AV)) (a:AV) (S:St):Option (AV × St):=
 match a with
 | .ref (.ptr b o)=>
  match S.read b with
  | some d=>d.get o S
  | none=>none
 | .ref (.gp g o)=>
  match glob g with
  | some l=>Data.get (.gen l) o S
  | none=>none
 | _=>none
def readCells (glob:Nat → Option (List AV)) (a:AV) (n:Nat) (S:St):Option (List AV × St):=
 match a with
 | .ref (.ptr b o)=>
  match S.read b with
  | some d=>d.cells n o S
  | none=>none
 | .ref (.gp g o)=>
  match o with
  | .c o=>
   match n with
   | 0=>some ([],S)
   | n=>
    match glob g with
    | some l=>(lsub n o l).map (·,S)
    | none=>none
  | .s _=>none
 | _=>none
def loadOp (glob:Nat → Option (List AV)) (t:TypeId) (a:AV) (S:St):Option (AV × St):=
 match isAggT P t with
 | none=>none
 | some true=>
  match sizeT P t with
  | some n=>
   match readCells glob a n S with
   | some (l,S)=>some (.agg l,S)
   | none=>none
  | none=>none
 | some false=>readCell glob a S
def storeOp (t:TypeId) (a v:AV) (S:St):Option St:=
 match a with
 | .ref (.ptr b o)=>
  match S.read b with
  | none=>none
  | some d=>
   match sizeT P t with
   | none=>none
   | some n=>
    match v with
    | .agg xs=>
     match Nat.beq xs.length n && allSingle xs with
     | true=>
      match d.over o (.gen xs) S with
      | some (d,S)=>S.write b d
      | none=>none
     | false=>none
    | v=>
     match v.single with
     | true=>
      match Nat.beq n 1 with
      | true=>
       match d.set o v S with
       | some (d,S)=>S.write b d
       | none=>none
      | false=>none
     | false=>none
 | _=>none
def elemT (t:TypeId):Option (TypeId × Nat):=
 match P.underlying t with
 | some (.slice e)=>(sizeT P e).map (e,·)
 | _=>none
def inRange (z:Z) (l:Z):B:=B.and ((Z.c 0).le z) (z.lt l)
def indexAddrOp (t:TypeId) (x i:AV) (S:St):Option (AV × St):=
 match i.nm with
 | none=>none
 | some z=>
  match P.underlying t with
  | some (.array n e)=>
   match sizeT P e with
   | none=>none
   | some s=>
    match (inRange z (.c n)).claim S with
    | none=>none
    | some S=>
     match x with
     | .ref (.ptr b o)=>some (.ptr b (o.add (z.toN.mulc s)),S)
     | .ref (.gp g o)=>some (.gp g (o.add (z.toN.mulc s)),S)
     | _=>none
  | some (.slice e)=>
   match sizeT P e with
   | none=>none
   | some s=>
    match x with
    | .ref (.sl b o l _)=>
     match (inRange z l.toZ).claim S with
     | some S=>some (.ptr b (o.add (z.toN.mulc s)),S)
     | none=>none
    | .ref (.gs g o l)=>
     match (inRange z l.toZ).claim S with
     | some S=>some (.gp g (o.add (z.toN.mulc s)),S)
     | none=>none
    | .ref (.sm b l s')=>
     match Nat.beq s' s with
     | true=>
      match (inRange z l.toZ).claim S with
      | some S=>some (.ptr b ((N.c 0).add (z.toN.mulc s)),S)
      | none=>none
     | false=>none
    | _=>none
  | _=>none
def bound (v:Option AV) (dflt:N):Option Z:=
 match v with
 | none=>some dflt.toZ
 | some v=>v.nm
def ordered (l h m:Z):B:=B.and (B.and ((Z.c 0).le l) (l.le h)) (h.le m)
def sliceArr (n s:Nat) (b:Nat) (o:N) (lo hi mx:Option AV) (S:St):Option (AV × St):=
 match bound lo (.c 0) with
 | none=>none
 | some l=>
  match bound hi (.c n) with
  | none=>none
  | some h=>
   match mx with
   | some _=>none
   | none=>
    match S.read b with
    | none=>none
    | some d=>
     match ((o.add (.c (n * s))).le d.lenN).claim S with
     | none=>none
     | some S=>
      match (ordered l h (.c n)).claim S with
      | some S=>some (.sl b (o.add (l.toN.mulc s)) (h.toN.sub l.toN) (some ((N.c n).sub l.toN)),S)
      | none=>none
def sliceSl (b:Nat) (o len:N) (cap:Option N) (lo hi mx:Option AV) (S:St):Option (AV × St):=
 match bound lo (.c 0) with
 | none=>none
 | some l=>
  match bound hi len with
  | none=>none
  | some h=>
   match cap with
   | none=>
    match mx with
    | some _=>none
    | none=>
     match (ordered l h len.toZ).claim S with
     | some S=>some (.sl b (o.add l.toN) (h.toN.sub l.toN) none,S)
     | none=>none
   | some c=>
    match mx with
    | none=>
     match (ordered l h c.toZ).claim S with
     | some S=>some (.sl b (o.add l.toN) (h.toN.sub l.toN) (some (c.sub l.toN)),S)
     | none=>none
    | some m=>
     match m.nm,hi with
     | none,_=>none
     | _,none=>none
     | some m,some _=>
      match (B.and (ordered l h m) (m.le c.toZ)).claim S with
      | some S=>some (.sl b (o.add l.toN) (h.toN.sub l.toN) (some (m.toN.sub l.toN)),S)
      | none=>none
def sliceOp (t:TypeId) (x:AV) (lo hi mx:Option AV) (S:St):Option (AV × St):=
 match P.underlying t with
 | some (.array n e)=>
  match x with
  | .ref (.ptr b o)=>
   match sizeT P e with
   | some 0=>none
   | some s=>sliceArr n s b o lo hi mx S
   | none=>none
  | _=>none
 | some (.slice e)=>
  match x with
  | .ref (.sl b o len cap)=>
   match sizeT P e with
   | some 1=>sliceSl b o len cap lo hi mx S
   | _=>none
  | .atom .nils=>
   match mx,sizeT P e with
   | some _,_=>none
   | none,none=>none
   | none,some _=>
    match bound lo (.c 0) with
    | none=>none
    | some l=>
     match bound hi (.c 0) with
     | none=>none
     | some h=>
      match (ordered l h (.c 0)).claim S with
      | some S=>some (.nils,S)
      | none=>none
  | _=>none
 | _=>none
def dataOf (x:AV) (n:N) (S:St):Option (Data × St):=
 match x with
 | .ref (.sl b o _ _)=>
  match S.read b with
  | some d=>d.sub o n S
  | none=>none
 | .atom .nils=>some (.gen [],S)
 | .atom (.str s)=>
  match n with
  | .c n=>some (.gen ((s.data.toList.take n).map fun b=>.int .u8 (.c b.toNat)),S)
  | .s _=>none
 | _=>none
def Data.singles (d:Data):Bool:=
 match d with
 | .gen l=>allSingle l
 | .spot ..=>false
 | .kn ..=>false
 | _=>true
def lenN (v:AV):Option N:=
 match v with
 | .ref (.sl _ _ l _)=>some l
 | .atom .nils=>some (.c 0)
 | .atom (.str s)=>some (.c s.size)
 | _=>none
def appendSl (b:Nat) (o l:N) (cap:Option N) (n:N) (xs:Data) (S:St):Option (AV × St):=
 match cap with
 | some C=>
  match C,l,n with
  | .c C,.c l,.c n=>
   match S.read b with
   | none=>none
   | some d=>
    match Nat.ble (l + n) C && Nat.ble 1 C with
    | true=>
     match d.over (o.add (.c l)) xs S with
     | some (d,S)=>
      match S.write b d with
      | some S=>some (.sl b o (.c (l + n)) cap,S)
      | none=>none
     | none=>none
    | false=>
     match Nat.ble (l + n) C with
     | true=>none
     | false=>
     match d.sub o (.c l) S with
     | some (d,S)=>
      match d.app xs with
      | some d=>some (.sl S.H.length (.c 0) (.c (l + n)) none,(S.new d).2)
      | none=>none
     | none=>none
  | C,l,n=>
   match ((l.add n).le C).test S with
   | none=>none
   | some (true,S)=>
    match ((N.c 1).le C).claim S with
    | none=>none
    | some S=>
     match S.read b with
     | none=>none
     | some d=>
      match d.over (o.add l) xs S with
      | some (d,S)=>
       match S.write b d with
       | some S=>some (.sl b o (l.add n) (some C),S)
       | none=>none
      | none=>none
   | some (false,S)=>
    match S.read b with
    | none=>none
    | some d=>
     match d.sub o l S with
     | some (d,S)=>
      match d.app xs with
      | some d=>some (.sl S.H.length (.c 0) (l.add n) none,(S.new d).2)
      | none=>none
     | none=>none
 | none=>
  match lget b S.H with
  | some ⟨d,m⟩=>
   match m with
   | .own=>
    match (B.and (o.eq (.c 0)) (l.eq (match l with | .c _=>.c d.len | .s _=>.s d.len))).claim S with
    | some S=>
     match d.app xs with
     | some d=>some (.sl S.H.length (.c 0) (l.add n) none,((S.kill b).new d).2)
     | none=>none
    | none=>none
   | _=>none
  | none=>none
def N.fits (n:N):B:=n.le (.c 1099511627776)
def sliceOrString (d:Option TypeDesc):Bool:=
 match d with
 | some (.slice _)=>true
 | some .string=>true
 | _=>false
def appendOp (argTypes:List TypeId) (args:List AV) (S:St):Option (AV × St):=
 match argTypes with
 | [t,u]=>
  match elemT P t with
  | some (e,1)=>
   match P.info? e,zeroRow P e with
   | none,_=>none
   | _,none=>none
   | some i,some _=>
   match Nat.beq i.bytes 0 with
   | true=>none
   | false=>
   match sliceOrString (P.underlying u) with
   | false=>none
   | true=>
    match args with
    | [s,x]=>
     match lenN x with
     | none=>none
     | some n=>
      match dataOf x n S with
      | none=>none
      | some (xs,S)=>
       match xs.singles with
       | false=>none
       | true=>
       match s with
       | .atom .nils=>
        match n with
        | .c 0=>some (.nils,S)
        | n=>
         match (n.mulc i.bytes).fits.claim S with
         | some S=>some (.sl S.H.length (.c 0) n none,(S.new xs).2)
         | none=>none
       | .ref (.sl b o l cap)=>
        match ((l.add n).mulc i.bytes).fits.claim S with
        | some S=>appendSl b o l cap n xs S
        | none=>none
       | _=>none
    | _=>none
  | _=>none
 | _=>none
def appendRow (x:AV) (s bytes:Nat) (cs:List AV) (S:St):Option (AV × St):=
 match x with
 | .atom .nils=>
  match ((N.c 1).mulc bytes).fits.claim S with
  | some S=>some (.sm S.H.length (.c 1) s,(S.new (.gen cs)).2)
  | none=>none
 | .ref (.sm b l s')=>
  match Nat.beq s' s with
  | false=>none
  | true=>
   match lget b S.H with
   | some ⟨d,m⟩=>
    match m with
    | .own=>
     match ((l.mulc s).eq (match l with | .c _=>.c d.len | .s _=>.s d.len)).claim S with
     | some S=>
      match ((l.add (.c 1)).mulc bytes).fits.claim S with
      | some S=>
       match d.app (.gen cs) with
       | some d=>some (.sm S.H.length (l.add (.c 1)) s,((S.kill b).new d).2)
       | none=>none
      | none=>none
     | none=>none
    | _=>none
   | none=>none
 | _=>none
def oneRow (x:AV) (s:Nat) (S:St):Option (List AV):=
 match x with
 | .ref (.sl b o l _)=>
  match o,l with
  | .c 0,.c 1=>
   match S.read b with
   | some (.gen cs)=>
    match Nat.beq cs.length s && allSingle cs with
    | true=>some cs
    | false=>none
   | _=>none
  | _,_=>none
 | _=>none
def appendBig (argTypes:List TypeId) (args:List AV) (S:St):Option (AV × St):=
 match argTypes with
 | [t,u]=>
  match elemT P t with
  | some (e,s)=>
   match Nat.ble 2 s with
   | false=>none
   | true=>
   match P.info? e,zeroRow P e with
   | none,_=>none
   | _,none=>none
   | some i,some _=>
   match Nat.beq i.bytes 0 with
   | true=>none
   | false=>
   match sliceOrString (P.underlying u) with
   | false=>none
   | true=>
    match args with
    | [x,y]=>
     match oneRow y s S with
     | some cs=>appendRow x s i.bytes cs S
     | none=>none
    | _=>none
  | none=>none
 | _=>none
def appendE (argTypes:List TypeId) (args:List AV) (S:St):Option (AV × St):=
 match appendOp P argTypes args S with
 | some r=>some r
 | none=>appendBig P argTypes args S
def copyOp (argTypes:List TypeId) (args:List AV) (S:St):Option (AV × St):=
 match argTypes with
 | t :: _=>
  match elemT P t with
  | some (_,1)=>
   match args with
   | [d,x]=>
    match lenN d with
    | none=>none
    | some l=>
     match lenN x with
     | none=>none
     | some m=>
      match dataOf x (m.min l) S with
      | none=>none
      | some (xs,S)=>
       match xs.singles with
       | false=>none
       | true=>
        match d with
        | .ref (.sl b o _ _)=>
         match S.read b with
         | none=>none
         | some dd=>
          match dd.over o xs S with
          | some (dd,S)=>
           match S.write b dd with
           | some S=>some (.int .i64 (m.min l).toZ,S)
           | none=>none
          | none=>none
        | .atom .nils=>some (.int .i64 (.c 0),S)
        | _=>none
   | _=>none
  | _=>none
 | []=>none
def zeroData (e:TypeId) (n:N):Option Data:=
 match n with
 | .c n=>
  match zeroRow P e with
  | some z=>some (.gen ((List.replicate n z).flatten))
  | none=>none
 | .s n=>
  match zeroRow P e with
  | some [z]=>
   match z with
   | .num (.int k (.c z))=>
    match intEq z 0 with
    | false=>none
    | true=>
     match k with
     | .u8=>some (.b8 (Vec.zero 8 n))
     | .u32=>some (.b32 (Vec.zero 32 n))
     | .u64=>some (.b64 (Vec.zero 64 n))
     | _=>none
   | _=>none
  | _=>none
def makeSliceOp (t:TypeId) (l c:AV) (S:St):Option (AV × St):=
 match P.underlying t with
 | some (.slice e)=>
  match P.info? e with
  | none=>none
  | some i=>
   match Nat.beq i.size 0 with
   | true=>none
   | false=>
    match l.nm with
    | none=>none
    | some l=>
     match c.nm with
     | none=>none
     | some c=>
      match (ordered l c (.c 1099511627776)).claim S with
      | none=>none
      | some S=>
       match (c.toN.mulc i.bytes).fits.claim S with
       | none=>none
       | some S=>
        match zeroData P e c.toN with
        | some d=>some (.sl S.H.length (.c 0) l.toN (some c.toN),(S.new d).2)
        | none=>none
 | _=>none
def fillAt (cells:List AV):List (Nat × Nat × AV) → Option (List AV)
 | []=>some cells
 | (off,size,v) :: r=>
  match v.row with
  | some vc=>
   match Nat.beq vc.length size with
   | true=>
    match lput vc off cells with
    | some cells=>fillAt cells r
    | none=>none
   | false=>none
  | none=>none
def buildOp (t:TypeId) (parts:List (Nat × AV)):Option AV:=
 match zeroRow P t with
 | none=>none
 | some z=>
  match P.underlying t with
  | some (.struct fields)=>
   match mapOpt (fun (f:Field)=>(sizeT P f.type).map fun s=>(f.offset,s)) fields.toList with
   | some places=>
    match mapOpt (fun (p:Nat × AV)=>(lget p.1 places).map fun q=>(q.1,q.2,p.2)) parts with
    | some ps=>(fillAt z ps).map .agg
    | none=>none
   | none=>none
  | some (.array _ e)=>
   match sizeT P e with
   | some s=>(fillAt z (parts.map fun p=>(p.1 * s,s,p.2))).map .agg
   | none=>none
  | _=>none
def buildSliceOp (t:TypeId) (len:Nat) (parts:List (Nat × AV)) (S:St):Option (AV × St):=
 match elemT P t with
 | some (e,s)=>
  match Nat.beq (len * s) 0 with
  | true=>none
  | false=>
   match Nat.ble (len * s) (2 ^ 24) with
   | false=>none
   | true=>
    match zeroRow P e with
    | some z=>
     match fillAt ((List.replicate len z).flatten) (parts.map fun p=>(p.1 * s,s,p.2)) with
     | some l=>some (.sl S.H.length (.c 0) (.c len) (some (.c len)),(S.new (.gen l)).2)
     | none=>none
    | none=>none
 | none=>none
def partOf (t:TypeId) (xs:List AV) (off:Nat):Option AV:=
 match isAggT P t with
 | none=>none
 | some true=>
  match sizeT P t with
  | some s=>(lsub s off xs).map .agg
  | none=>none
 | some false=>lget off xs
def fieldOp (t:TypeId) (x:AV) (f:Nat):Option AV:=
 match P.underlying t with
 | some (.struct fields)=>
  match x with
  | .agg xs=>
   match lget f fields.toList with
   | some fd=>partOf P fd.type xs fd.offset
   | none=>none
  | _=>none
 | _=>none
def fieldAddrOp (t:TypeId) (x:AV) (f:Nat):Option AV:=
 match P.underlying t with
 | some (.struct fields)=>
  match lget f fields.toList with
  | some fd=>
   match sizeT P fd.type with
   | some 0=>none
   | some _=>
    match x with
    | .ref (.ptr b o)=>some (.ptr b (o.add (.c fd.offset)))
    | .ref (.gp b o)=>some (.gp b (o.add (.c fd.offset)))
    | _=>none
   | none=>none
  | none=>none
 | _=>none
def strAt (s:ByteArray) (k:Int):BitVec 8:=BitVec.ofNat 8 (s.data.toList.getD k.toNat 0).toNat
def indexOp (t:TypeId) (x i:AV) (S:St):Option (AV × St):=
 match i.nm with
 | none=>none
 | some z=>
  match P.underlying t with
  | some (.array n e)=>
   match x with
   | .agg xs=>
    match z with
    | .c z=>
     match intLe 0 z && intLt z n with
     | true=>
      match sizeT P e with
      | some s=>(partOf P e xs (z.toNat * s)).map (·,S)
      | none=>none
     | false=>none
    | .s k=>
     match sizeT P e with
     | none=>none
     | some s=>
      match isAggT P e with
      | some false=>
       match mapOpt AV.bv64 xs with
       | none=>none
       | some l=>
        match Nat.beq s 1 && Nat.beq l.length n with
        | true=>
         match (inRange (.s k) (.c n)).claim S with
         | some S=>some (.w64 (l.getD k.toNat 0#64),S)
         | none=>none
        | false=>none
      | _=>none
   | _=>none
  | some .string=>
   match x with
   | .atom (.str s)=>
    match z with
    | .c z=>
     match intLe 0 z with
     | true=>
      match lget z.toNat s.data.toList with
      | some b=>some (.int .u8 (.c b.toNat),S)
      | none=>none
     | false=>none
    | .s k=>
     match (inRange (.s k) (.c s.size)).claim S with
     | some S=>some (.w8 (strAt s k),S)
     | none=>none
   | _=>none
  | _=>none
def arrayPtrOp (t:TypeId) (x:AV) (S:St):Option (AV × St):=
 match P.underlying t with
 | some (.array n _)=>
  match n with
  | 0=>none
  | n=>
   match x with
   | .ref (.sl b o l _)=>
    match (N.le (.c n) l).claim S with
    | some S=>some (.ptr b o,S)
    | none=>none
   | _=>none
 | _=>none
def lenOp (argTypes:List TypeId) (args:List AV):Option AV:=
 match argTypes with
 | t :: _=>
  match args with
  | x :: _=>
   match P.underlying t with
   | some (.array n _)=>some (.int .i64 (.c n))
   | some (.slice _)=>
    match x with
    | .ref (.sl _ _ l _)=>some (.int .i64 l.toZ)
    | .ref (.gs _ _ l)=>some (.int .i64 l.toZ)
    | .ref (.sm _ l _)=>some (.int .i64 l.toZ)
    | .atom .nils=>some (.int .i64 (.c 0))
    | _=>none
   | some .string=>
    match x with
    | .atom (.str s)=>some (.int .i64 (.c s.size))
    | _=>none
   | _=>none
  | []=>none
 | []=>none
def capOp (argTypes:List TypeId) (args:List AV):Option AV:=
 match argTypes with
 | t :: _=>
  match args with
  | x :: _=>
   match P.underlying t with
   | some (.array n _)=>some (.int .i64 (.c n))
   | some (.slice _)=>
    match x with
    | .ref (.sl _ _ _ (some c))=>some (.int .i64 c.toZ)
    | .atom .nils=>some (.int .i64 (.c 0))
    | _=>none
   | _=>none
  | []=>none
 | []=>none
def min2 (mx:Bool) (x y:AV):Option AV:=
 match x with
 | .num (.int k a)=>
  match y with
  | .num (.int k' b)=>
   match kindEq k k' with
   | false=>none
   | true=>
    match (if mx then a.lt b else b.lt a) with
    | .c t=>some (.int k (match t with | true=>b | false=>a))
    | .s t=>some (.int k (.s (if t then b.v else a.v)))
  | _=>none
 | _=>none
def eqN (x y:Num):Option B:=
 match x with
 | .int k a=>
  match y with
  | .int k' b=>
   match kindEq k k' with
   | true=>some (a.eq b)
   | false=>none
  | .w8 y=>(Num.int k a).bv8.map fun x=>.s (x == y)
  | .w16 y=>(Num.int k a).bv16.map fun x=>.s (x == y)
  | .w32 y=>(Num.int k a).bv32.map fun x=>.s (x == y)
  | .w64 y=>(Num.int k a).bv64.map fun x=>.s (x == y)
 | .w8 x=>y.bv8.map fun y=>.s (x == y)
 | .w16 x=>y.bv16.map fun y=>.s (x == y)
 | .w32 x=>y.bv32.map fun y=>.s (x == y)
 | .w64 x=>y.bv64.map fun y=>.s (x == y)
def eqCell (x y:AV):Option B:=
 match x with
 | .num x=>
  match y with
  | .num y=>eqN x y
  | _=>none
 | _=>none
def eqCells:List AV → List AV → Option B
 | [],ys=>match ys with | []=>some (.c true) | _=>none
 | x :: xs,ys=>
  match ys with
  | []=>none
  | y :: ys=>
   match eqCell x y with
   | none=>none
   | some a=>
    match eqCells xs ys with
    | none=>none
    | some b=>some (B.and a b)
def eqB (x y:B):B:=
 match x with
 | .c a=>
  match y with
  | .c b=>.c (a == b)
  | .s b=>.s (a == b)
 | .s a=>.s (a == y.v)
def eqOp (t:TypeId) (x y:AV):Option B:=
 match x with
 | .agg xs=>
  match y with
  | .agg ys=>
   match P.underlying t with
   | some (.array n e)=>
    match P.underlying e with
    | some (.int _)=>
     match sizeT P e with
     | some 1=>
      match Nat.beq xs.length n with
      | true=>eqCells xs ys
      | false=>none
     | _=>none
    | _=>none
   | _=>none
  | _=>none
 | .atom (.bool a)=>
  match y with
  | .atom (.bool b)=>
   match P.underlying t with
   | some .bool=>some (eqB a b)
   | _=>none
  | _=>none
 | .atom .nili=>
  match y with
  | .obj (.ifc _) _=>
   match P.underlying t with
   | some (.interface _)=>some (.c false)
   | _=>none
  | _=>none
 | .obj (.ifc _) _=>
  match y with
  | .atom .nili=>
   match P.underlying t with
   | some (.interface _)=>some (.c false)
   | _=>none
  | _=>none
 | _=>none
end
end
section
inductive Out where
 | normal
 | exit (id:Nat)
 | ret
structure Fr where
 vars:List AV
 tmps:List (Nat × AV)
structure SRes where
 v:AV
 H:List Blk
 dec:List Bool
 cond:List Bool
abbrev Spec:=List AV → List Blk → List Bool → Option SRes
abbrev LSpec:=Fr → St → Option (Out × Fr × St)
structure Cfg where
 P:Program
 glob:Nat → Option (List AV)
 nv:FuncId → Nat
 keep:FuncId → List Nat
 dyn:FuncId → Nat → Bool
 spec:FuncId → Option Spec
 loop:FuncId → Nat → Option LSpec
 scope:FuncId → Bool
 meth:Nat → String → Option FuncId
 ext:FuncId → List AV → Option AV:=fun _ _=>none
def assoc (t:Nat):List (Nat × AV) → AV
 | []=>.undef
 | (k,v) :: r=>
  match Nat.beq k t with
  | true=>v
  | false=>assoc t r
def Fr.get (nv:Nat) (F:Fr) (t:Nat):AV:=
 match Nat.blt t nv with
 | true=>
  match lget t F.vars with
  | some v=>v
  | none=>.undef
 | false=>assoc t F.tmps
def Fr.put (nv:Nat) (F:Fr) (d:Option Nat) (v:AV):Fr:=
 match d with
 | none=>F
 | some t=>
  match Nat.blt t nv with
  | true=>{ F with vars:=lset v t F.vars }
  | false=>{ F with tmps:=(t,v) :: F.tmps }
def elemN (t:Nat):List Nat → Bool
 | []=>false
 | x :: r=>
  match Nat.beq x t with
  | true=>true
  | false=>elemN t r
def keepOnly (ks:List Nat):List (Nat × AV) → List (Nat × AV)
 | []=>[]
 | (k,v) :: r=>
  match elemN k ks with
  | true=>(k,v) :: keepOnly ks r
  | false=>keepOnly ks r
def addRef (b:Nat) (rs:List Nat):List Nat:=
 match elemN b rs with
 | true=>rs
 | false=>rs ++ [b]
def refsR (r:Ref) (rs:List Nat):List Nat:=
 match r with
 | .ptr b _=>addRef b rs
 | .sl b _ _ _=>addRef b rs
 | .gp _ _=>rs
 | .gs _ _ _=>rs
 | .sm b _ _=>addRef b rs
mutual
def refsV:AV → List Nat → List Nat
 | .num _,rs=>rs
 | .ref r,rs=>refsR r rs
 | .atom _,rs=>rs
 | .agg xs,rs=>refsL xs rs
 | .obj _ xs,rs=>refsL xs rs
def refsL:List AV → List Nat → List Nat
 | [],rs=>rs
 | v :: r,rs=>refsL r (refsV v rs)
end
def idxGo (b:Nat):List Nat → Nat → Option Nat
 | [],_=>none
 | x :: r,i=>
  match Nat.beq x b with
  | true=>some i
  | false=>idxGo b r (i + 1)
def toR (rs:List Nat) (r:Ref):Option Ref:=
 match r with
 | .ptr b o=>
  match idxGo b rs 0 with
  | some i=>some (.ptr i o)
  | none=>none
 | .sl b o l c=>
  match idxGo b rs 0 with
  | some i=>some (.sl i o l c)
  | none=>none
 | .gp g o=>some (.gp g o)
 | .gs g o l=>some (.gs g o l)
 | .sm b l s=>
  match idxGo b rs 0 with
  | some i=>some (.sm i l s)
  | none=>none
mutual
def toV (rs:List Nat):AV → Option AV
 | .num n=>some (.num n)
 | .ref r=>
  match toR rs r with
  | some r=>some (.ref r)
  | none=>none
 | .atom a=>some (.atom a)
 | .agg xs=>
  match toL rs xs with
  | some xs=>some (.agg xs)
  | none=>none
 | .obj t xs=>
  match toL rs xs with
  | some xs=>some (.obj t xs)
  | none=>none
def toL (rs:List Nat):List AV → Option (List AV)
 | []=>some []
 | v :: r=>
  match toV rs v with
  | some v=>
   match toL rs r with
   | some r=>some (v :: r)
   | none=>none
  | none=>none
end
def toD (rs:List Nat) (d:Data):Option Data:=
 match d with
 | .gen l=>
  match toL rs l with
  | some l=>some (.gen l)
  | none=>none
 | .spot n K x=>
  match toV rs x with
  | some x=>some (.spot n K x)
  | none=>none
 | .kn l t=>
  match toL rs t with
  | some t=>some (.kn l t)
  | none=>none
 | d=>some d
def renR (f:Nat → Nat) (r:Ref):Ref:=
 match r with
 | .ptr b o=>.ptr (f b) o
 | .sl b o l c=>.sl (f b) o l c
 | .gp g o=>.gp g o
 | .gs g o l=>.gs g o l
 | .sm b l s=>.sm (f b) l s
mutual
def renV (f:Nat → Nat):AV → AV
 | .num n=>.num n
 | .ref r=>.ref (renR f r)
 | .atom a=>.atom a
 | .agg xs=>.agg (renL f xs)
 | .obj t xs=>.obj t (renL f xs)
def renL (f:Nat → Nat):List AV → List AV
 | []=>[]
 | v :: r=>renV f v :: renL f r
end
def Data.refs (d:Data) (rs:List Nat):List Nat:=
 match d with
 | .gen l=>refsL l rs
 | .spot _ _ x=>refsL [x] rs
 | .kn _ t=>refsL t rs
 | _=>rs
def Data.ren (f:Nat → Nat) (d:Data):Data:=
 match d with
 | .gen l=>.gen (renL f l)
 | .spot n K x=>.spot n K (renV f x)
 | .kn l t=>.kn l (renL f t)
 | d=>d
def blkAt (H:List Blk) (b:Nat):Blk:=
 match lget b H with
 | some k=>k
 | none=>⟨.gen [],.dead⟩
def closeRefs (H:List Blk):Nat → Nat → List Nat → List Nat
 | 0,_,rs=>rs
 | n + 1,i,rs=>
  match lget i rs with
  | none=>rs
  | some b=>closeRefs H n (i + 1) ((blkAt H b).data.refs rs)
def seenBy (H:List Blk) (rs:List Nat):List Nat → Option (List Blk)
 | []=>some []
 | b :: r=>
  match lget b H with
  | none=>none
  | some ⟨d,m⟩=>
   match toD rs d with
   | none=>none
   | some d=>
    match seenBy H rs r with
    | some ks=>some (⟨d,m⟩ :: ks)
    | none=>none
def backOf (rs:List Nat) (base:Nat) (i:Nat):Nat:=
 match lget i rs with
 | some b=>b
 | none=>base + (i - rs.length)
def newBlks (f:Nat → Nat):List Blk → List Blk
 | []=>[]
 | ⟨d,m⟩ :: ks=>⟨d.ren f,m⟩ :: newBlks f ks
def putBack (f:Nat → Nat):List Nat → List Blk → List Blk → Option (List Blk)
 | [],ks,H=>some (H ++ newBlks f ks)
 | _ :: _,[],_=>none
 | b :: rs,⟨d,m⟩ :: ks,H=>
  match (blkAt H b).mode with
  | .own=>putBack f rs ks (lset ⟨d.ren f,m⟩ b H)
  | _=>putBack f rs ks H
def lowOf (H:List Blk):List Nat → Nat → Nat
 | [],l=>l
 | b :: rs,l=>
  match (blkAt H b).mode with
  | .own=>lowOf H rs (Nat.min l b)
  | _=>lowOf H rs l
def nodupB:List Nat → Bool
 | []=>true
 | x :: r=>
  match elemN x r with
  | true=>false
  | false=>nodupB r
def callSpec (sp:Spec) (args:List AV) (S:St):Option (AV × St):=
 let rs:=closeRefs S.H 100 0 (refsL args [])
 match nodupB rs with
 | false=>none
 | true=>
  match toL rs args with
  | none=>none
  | some args=>
   match seenBy S.H rs rs with
   | none=>none
   | some H=>
    match sp args H S.dec with
    | none=>none
    | some r=>
     let f:=backOf rs S.H.length
     match putBack f rs r.H S.H with
     | none=>none
     | some H=>some (renV f r.v,{ H:=H,low:=lowOf S.H rs S.low,dec:=r.dec,cond:=r.cond ++ S.cond })
section
variable (C:Cfg)
def Fr.ev (nv:Nat) (F:Fr) (x:Operand):AV:=
 match x with
 | .tmp t=>F.get nv t
 | .const v=>absV v
 | .global g=>.gp (2 * g) (.c 0)
 | .func f=>.fn (.func f) [] []
def isConst:Operand → Bool
 | .const _=>true
 | _=>false
def evL (ev:Operand → AV):List Operand → List AV
 | []=>[]
 | x :: r=>ev x :: evL ev r
def evO (ev:Operand → AV):Option Operand → Option AV
 | none=>none
 | some x=>some (ev x)
def evP (ev:Operand → AV):List (Nat × Operand) → List (Nat × AV)
 | []=>[]
 | (i,x) :: r=>(i,ev x) :: evP ev r
def val (S:St):Option AV → Option (AV × St)
 | none=>none
 | some v=>some (v,S)
def isNili (v:AV):Bool:=
 match v with
 | .atom .nili=>true
 | _=>false
def eqOpE (P:Program) (t:TypeId) (k:Bool) (a b:AV):Option B:=
 match isNili a && isNili b with
 | true=>
  match k with
  | true=>
   match P.underlying t with
   | some (.interface _)=>some (.c true)
   | _=>none
  | false=>none
 | false=>eqOp P t a b
def binOpE (P:Program) (op:BinOp) (t:TypeId) (x y:Operand) (a b:AV) (S:St):Option (AV × St):=
 match binop op a b S with
 | some r=>some r
 | none=>
  match eqOpE P t (isConst x || isConst y) a b with
  | none=>none
  | some r=>
   match op with
   | .eql=>some (.bool r,S)
   | .neq=>some (.bool r.not,S)
   | _=>none
def builtinE (P:Program) (b:Builtin) (argTypes:List TypeId) (args:List AV) (S:St):Option (AV × St):=
 match b with
 | .len=>val S (lenOp P argTypes args)
 | .cap=>val S (capOp P argTypes args)
 | .append=>appendE P argTypes args S
 | .copy=>copyOp P argTypes args S
 | .min=>
  match args with
  | [x,y]=>val S (min2 false x y)
  | _=>none
 | .max=>
  match args with
  | [x,y]=>val S (min2 true x y)
  | _=>none
 | _=>none
def pickE (c a b:AV) (S:St):Option (AV × St):=
 match c with
 | .atom (.bool t)=>
  match t.test S with
  | some (true,S)=>some (a,S)
  | some (false,S)=>some (b,S)
  | none=>none
 | _=>none
def allocE (e:TypeId) (S:St):Option (AV × St):=
 match zeroRow C.P e with
 | some z=>some (.ptr S.H.length (.c 0),(S.new (.gen z)).2)
 | none=>none
def boxE (v:AV) (S:St):Option (AV × St):=
 match v.row with
 | some l=>some (.ptr S.H.length (.c 0),(S.new (.gen l)).2)
 | none=>none
def storeE (r:Option St):Option (AV × St):=
 match r with
 | some S=>some (.undef,S)
 | none=>none
def nilCheckE (meth:Nat → String → Option FuncId) (v:AV) (S:St):Option (AV × St):=
 match v with
 | .ref (.ptr b o)=>some (.ptr b o,S)
 | .ref (.gp b o)=>some (.gp b o,S)
 | .obj tg xs=>
  match tg with
  | .fn f n=>
   match f with
   | .method name=>
    match n with
    | 1=>
     match xs with
     | [x]=>
      match x with
      | .obj tg' ys=>
       match tg' with
       | .ifc t=>
        match ys with
        | [y]=>
         match y with
         | .ref (.ptr b o)=>
          match meth t name with
          | some _=>some (.obj (.fn (.method name) 1) [.obj (.ifc t) [.ref (.ptr b o)]],S)
          | none=>none
         | _=>none
        | _=>none
       | _=>none
      | _=>none
     | _=>none
    | _=>none
   | _=>none
  | _=>none
 | _=>none
def convSl (e:TypeId) (same:Bool) (v:AV) (S:St):Option (AV × St):=
 match same with
 | false=>none
 | true=>
  match C.P.underlying e with
  | some (.int .u8)=>
   match v with
   | .ref (.sl b _ (.c (_ + 1)) _)=>
    match lget b S.H with
    | some ⟨_,.own⟩=>some (v,S)
    | _=>none
   | _=>none
  | _=>none
def convE (src dst:TypeId) (v:AV) (S:St):Option (AV × St):=
 match C.P.underlying src with
 | none=>none
 | some _=>
  match C.P.underlying dst with
  | some (.int k)=>convNum v k S
  | some (.slice e)=>convSl C e (Nat.beq src dst) v S
  | _=>none
def ifaceE (t:TypeId) (v:AV) (S:St):Option (AV × St):=
 match C.P.underlying t with
 | some (.interface _)=>none
 | none=>none
 | some _=>some (.ifc t v,S)
def extractE (v:AV) (i:Nat) (S:St):Option (AV × St):=
 match v with
 | .obj .tup xs=>val S (lget i xs)
 | _=>none
def callBE (c:Call) (ev:Operand → AV) (S:St):Option (AV × St):=
 match c.callee with
 | .builtin b=>builtinE C.P b c.argTypes.toList (evL ev c.args.toList) S
 | _=>none
inductive OpF where
 | run (f:(Operand → AV) → St → Option (AV × St))
 | call (c:Call)
def opF (op:Op):OpF:=
 match op with
 | .move x=>.run fun ev S=>some (ev x,S)
 | .assign x=>.run fun ev S=>some (ev x,S)
 | .pick c a b=>.run fun ev S=>pickE (ev c) (ev a) (ev b) S
 | .alloc e=>.run fun _ S=>allocE C e S
 | .box _ v=>.run fun ev S=>boxE (ev v) S
 | .build t ps=>.run fun ev S=>val S (buildOp C.P t (evP ev ps.toList))
 | .buildSlice t n ps=>.run fun ev S=>buildSliceOp C.P t n (evP ev ps.toList) S
 | .load t a=>.run fun ev S=>loadOp C.P C.glob t (ev a) S
 | .store t a x=>.run fun ev S=>storeE (storeOp C.P t (ev a) (ev x) S)
 | .nilCheck x=>.run fun ev S=>nilCheckE C.meth (ev x) S
 | .binOp op t x y _=>.run fun ev S=>binOpE C.P op t x y (ev x) (ev y) S
 | .unOp op _ x=>.run fun ev S=>val S (unop op (ev x))
 | .convert src dst x=>.run fun ev S=>convE C src dst (ev x) S
 | .sliceToArrayPointer t x=>.run fun ev S=>arrayPtrOp C.P t (ev x) S
 | .makeInterface t x=>.run fun ev S=>ifaceE C t (ev x) S
 | .makeFunc f a b=>.run fun ev S=>some (.fn f (evL ev a.toList) (evL ev b.toList),S)
 | .makeSlice t l c=>.run fun ev S=>makeSliceOp C.P t (ev l) (ev c) S
 | .slice t x lo hi mx=>.run fun ev S=>sliceOp C.P t (ev x) (evO ev lo) (evO ev hi) (evO ev mx) S
 | .fieldAddr t x f=>.run fun ev S=>val S (fieldAddrOp C.P t (ev x) f)
 | .field t x f=>.run fun ev S=>val S (fieldOp C.P t (ev x) f)
 | .indexAddr t x i=>.run fun ev S=>indexAddrOp C.P t (ev x) (ev i) S
 | .index t x i=>.run fun ev S=>indexOp C.P t (ev x) (ev i) S
 | .extract t i=>.run fun ev S=>extractE (ev t) i S
 | .call c=>.call c
 | _=>.run fun _ _=>none
def callee (ev:Operand → AV) (c:Call):Option (FuncId × List AV):=
 match c.callee with
 | .value f=>
  match ev f with
  | .obj (.fn (.func f) n) xs=>some (f,xs.take n ++ evL ev c.args.toList ++ xs.drop n)
  | _=>none
 | .invoke r m=>
  match ev r with
  | .obj (.ifc t) [v]=>
   match C.meth t m with
   | some f=>some (f,v :: evL ev c.args.toList)
   | none=>none
  | _=>none
 | .builtin _=>none
def guardOk (ops:List Oper) (ev:Operand → AV) (g:Option (Nat × Bool)) (S:St):Option (Bool × St):=
 match g with
 | none=>some (true,S)
 | some (j,want)=>
  match lget j ops with
  | none=>none
  | some o=>
   match o.dst with
   | none=>none
   | some d=>
    match ev (.tmp d) with
    | .atom (.bool b)=>
     match b.test S with
     | some (t,S)=>some (t == want,S)
     | none=>none
    | .obj .tup []=>some (false,S)
    | _=>none
abbrev CallF:=FuncId → List AV → St → Option (AV × St)
def isBuiltin:Callee → Bool
 | .builtin _=>true
 | _=>false
def callE (c:Call) (call:CallF) (ev:Operand → AV) (S:St):Option (AV × St):=
 match isBuiltin c.callee with
 | true=>callBE C c ev S
 | false=>
  match callee C ev c with
  | some (f,args)=>
   match C.ext f args with
   | some v=>some (v,S)
   | none=>call f args S
  | none=>none
def opE (call:CallF) (ev:Operand → AV) (op:Op) (S:St):Option (AV × St):=
 match opF C op with
 | .run f=>f ev S
 | .call c=>callE C c call ev S
def runOps (call:CallF) (nv:Nat) (ops:List Oper):List Oper → Fr → St → Option (Fr × St)
 | [],F,S=>some (F,S)
 | o :: r,F,S=>
  match guardOk ops (F.ev nv) o.guard S with
  | none=>none
  | some (false,S)=>runOps call nv ops r (F.put nv o.dst (.obj .tup [])) S
  | some (true,S)=>
   match opE C call (F.ev nv) o.op S with
   | none=>none
   | some (v,S)=>runOps call nv ops r (F.put nv o.dst v) S
inductive Ev where
 | load (b:Nat)
 | eff (low:Nat)
 | one (b:Nat)
 | cell (b o:Nat)
 | span (b p q:Nat)
def blkOf (v:AV):Option Nat:=
 match v with
 | .ref (.ptr b _)=>some b
 | _=>none
def slOf (v:AV):Option Nat:=
 match v with
 | .ref (.sl b _ _ _)=>some b
 | _=>none
def isArr (P:Program) (t:TypeId):Bool:=
 match P.underlying t with
 | some (.array _ _)=>true
 | _=>false
def readOf (P:Program) (ev:Operand → AV) (op:Op):Option Nat:=
 match op with
 | .load _ a=>blkOf (ev a)
 | .slice t a _ _ _=>
  match isArr P t with
  | true=>blkOf (ev a)
  | false=>none
 | .convert s d x=>
  match Nat.beq s d with
  | true=>slOf (ev x)
  | false=>none
 | _=>none
def big:Nat:=1000000000
def isEff:Op → Bool
 | .store ..=>true
 | .call c=>
  match c.callee with
  | .builtin b=>
   match b with
   | .len | .cap | .min | .max=>false
   | _=>true
  | _=>true
 | .box ..=>true
 | _=>false
def isFloat:Op → Bool
 | .alloc _=>true
 | .makeSlice ..=>true
 | .buildSlice ..=>true
 | _=>false
def floatE (ev:Operand → AV) (op:Op) (nm:Nat) (S:St):Option (AV × St):=
 match op with
 | .alloc e=>
  match zeroRow C.P e with
  | some z=>some (.ptr nm (.c 0),{ S with H:=lset ⟨.gen z,.own⟩ nm S.H })
  | none=>none
 | .makeSlice t l c=>
  match makeSliceOp C.P t (ev l) (ev c) { S with H:=[] } with
  | some (x,S')=>
   match x,S'.H with
   | .ref (.sl _ o n cap),[k]=>some (.sl nm o n cap,{ S' with H:=lset k nm S.H })
   | _,_=>none
  | none=>none
 | .buildSlice t n ps=>
  match buildSliceOp C.P t n (evP ev ps.toList) { S with H:=[] } with
  | some (x,S')=>
   match x,S'.H with
   | .ref (.sl _ o m cap),[k]=>some (.sl nm o m cap,{ S' with H:=lset k nm S.H })
   | _,_=>none
  | none=>none
 | _=>none
def lowB (dyn:Bool) (S:St):St:=
 match dyn with
 | true=>{ S with low:=big }
 | false=>S
def lowA (dyn:Bool) (S S':St):St:=
 match dyn with
 | true=>{ S' with low:=Nat.min S.low S'.low }
 | false=>S'
def storeBlk (ev:Operand → AV) (op:Op):Option Nat:=
 match op with
 | .store _ a _=>blkOf (ev a)
 | _=>none
def cellRead (P:Program) (ev:Operand → AV) (op:Op) (S:St):Option (Nat × Nat):=
 match op with
 | .load t a=>
  match isAggT P t with
  | some false=>
   match ev a with
   | .ref (.ptr b (.c o))=>
    match lget b S.H with
    | some ⟨.gen l,_⟩=>
     match lget o l with
     | some _=>some (b,o)
     | none=>none
    | _=>none
   | _=>none
  | _=>none
 | _=>none
def vague (x:AV):Bool:=
 match x with
 | .ref (.sl _ _ (.s _) _)=>true
 | .atom .nils=>true
 | _=>false
def copySpan (ev:Operand → AV) (op:Op) (S:St):Option (Nat × Nat × Nat):=
 match op with
 | .call c=>
  match c.callee with
  | .builtin bi=>
   match bi with
   | .copy=>
    match c.args.toList with
    | [d,x]=>
     match ev d with
     | .ref (.sl b _ _ _)=>
      match vague (ev x) with
      | true=>
       match lget b S.H with
       | some ⟨.gen l,_⟩=>
        match (Data.gen l).words with
        | some _=>none
        | none=>
         match skip8 l with
         | (pre,r)=>
          match take8 r with
          | (ws,_)=>some (b,pre.length,pre.length + ws.length)
       | _=>none
      | false=>none
     | _=>none
    | _=>none
   | _=>none
  | _=>none
 | _=>none
def evOf (P:Program) (dyn:Bool) (ev:Operand → AV) (op:Op) (S S':St):Option Ev:=
 match dyn with
 | false=>none
 | true=>
  match isEff op with
  | true=>
   match storeBlk ev op with
   | some b=>some (.one b)
   | none=>
    match copySpan ev op S with
    | some (b,p,q)=>some (.span b p q)
    | none=>some (.eff (Nat.min S'.low S.H.length))
  | false=>
   match cellRead P ev op S with
   | some (b,o)=>some (.cell b o)
   | none=>
    match readOf P ev op with
    | some b=>some (.load b)
    | none=>none
def stepW (call:CallF) (nv:Nat) (dyn:Bool) (ops:List Oper) (nm:Nat) (o:Oper) (F:Fr) (S:St):Option (Fr × St × Option Ev):=
 match guardOk ops (F.ev nv) o.guard S with
 | none=>none
 | some (false,S)=>some (F.put nv o.dst (.obj .tup []),S,none)
 | some (true,S)=>
  match isFloat o.op with
  | true=>
   match floatE C (F.ev nv) o.op nm S with
   | none=>none
   | some (v,S)=>some (F.put nv o.dst v,S,none)
  | false=>
   match opE C call (F.ev nv) o.op (lowB dyn S) with
   | none=>none
   | some (v,S')=>some (F.put nv o.dst v,lowA dyn S S',evOf C.P dyn (F.ev nv) o.op S S')
def nextNm (o:Oper) (nm:Nat):Nat:=
 match isFloat o.op with
 | true=>nm + 1
 | false=>nm
def consEv (i:Nat) (e:Option Ev) (es:List (Nat × Ev)):List (Nat × Ev):=
 match e with
 | some e=>(i,e) :: es
 | none=>es
def runW (call:CallF) (nv:Nat) (dyn:Bool) (ops:List Oper):List Oper → Nat → Nat → Fr → St → Option (Fr × St × List (Nat × Ev))
 | [],_,_,F,S=>some (F,S,[])
 | o :: r,i,nm,F,S=>
  match stepW C call nv dyn ops nm o F S with
  | none=>none
  | some (F,S,e)=>
   match runW call nv dyn ops r (i + 1) (nextNm o nm) F S with
   | none=>none
   | some (F,S,es)=>some (F,S,consEv i e es)
def floats:List Oper → Nat
 | []=>0
 | o :: r=>
  match isFloat o.op with
  | true=>floats r + 1
  | false=>floats r
def pads:Nat → List Blk
 | 0=>[]
 | n + 1=>⟨.gen [],.dead⟩ :: pads n
def padSt (S:St) (n:Nat):St:=
 match n with
 | 0=>S
 | n + 1=>{ S with H:=S.H ++ pads (n + 1) }
def hits (b:Nat) (e:Ev):Bool:=
 match e with
 | .eff l=>Nat.ble l b
 | .one c=>Nat.beq c b
 | .span c _ _=>Nat.beq c b
 | .load _=>false
 | .cell ..=>false
def hitsC (b o:Nat) (e:Ev):Bool:=
 match e with
 | .eff l=>Nat.ble l b
 | .one c=>Nat.beq c b
 | .span c p q=>Nat.beq c b && (Nat.ble p o && Nat.blt o q)
 | .load _=>false
 | .cell ..=>false
def isLd (e:Ev):Bool:=
 match e with
 | .load _=>true
 | .cell ..=>true
 | _=>false
def clash1 (bef:Nat → Nat) (i:Nat) (e:Ev) (j:Nat) (e':Ev):Bool:=
 match e with
 | .load b=>hits b e' && !(bef j).testBit i
 | .cell b o=>hitsC b o e' && !(bef j).testBit i
 | e=>
  match e' with
  | .load b=>hits b e && !(bef j).testBit i
  | .cell b o=>hitsC b o e && !(bef j).testBit i
  | _=>false
def clash (bef:Nat → Nat) (i:Nat) (e:Ev):List (Nat × Ev) → Bool
 | []=>false
 | (j,e') :: r=>
  match clash1 bef i e j e' with
  | true=>true
  | false=>clash bef i e r
def clashes (bef:Nat → Nat):List (Nat × Ev) → Bool
 | []=>false
 | (i,e) :: r=>
  match clash bef i e r with
  | true=>true
  | false=>clashes bef r
def befOf (ops:Array Oper) (i:Nat):Nat:=(CheckFast.beforeF ops).getD i 0
def firstRid:Code → Option Nat
 | .region id _ _=>some id
 | .seq a _=>firstRid a
 | .block _ a=>firstRid a
 | .cond _ a _=>firstRid a
 | _=>none
structure Env where
 call:CallF
 nv:Nat
 ks:List Nat
 dyn:Nat → Bool
 lo:Nat → Option LSpec
def regionE (id:Nat) (ops:List Oper) (bef:Nat → Nat) (draw:Bool) (E:Env) (F:Fr) (S:St):Option (Out × Fr × St):=
 match draw with
 | false=>
  match runOps C E.call E.nv ops ops F S with
  | some (F,S)=>some (.normal,{ F with tmps:=keepOnly E.ks F.tmps },S)
  | none=>none
 | true=>
  match runW C E.call E.nv (E.dyn id) ops ops 0 S.H.length F (padSt S (floats ops)) with
  | some (F,S,es)=>
   match clashes bef es with
   | true=>none
   | false=>some (.normal,{ F with tmps:=keepOnly E.ks F.tmps },S)
  | none=>none
abbrev Run:=Env → Fr → St → Option (Out × Fr × St)
def seqE (a b:Run) (E:Env) (F:Fr) (S:St):Option (Out × Fr × St):=
 match a E F S with
 | none=>none
 | some (o,F,S)=>
  match o with
  | .normal=>b E F S
  | o=>some (o,F,S)
def condE (x:Operand) (a b:Run) (E:Env) (F:Fr) (S:St):Option (Out × Fr × St):=
 match F.ev E.nv x with
 | .atom (.bool t)=>
  match t.test S with
  | some (true,S)=>a E F S
  | some (false,S)=>b E F S
  | none=>none
 | _=>none
def blockE (id:Nat) (b:Run) (E:Env) (F:Fr) (S:St):Option (Out × Fr × St):=
 match b E F S with
 | none=>none
 | some (o,F,S)=>
  match o with
  | .exit i=>
   match Nat.beq i id with
   | true=>some (.normal,F,S)
   | false=>some (.exit i,F,S)
  | o=>some (o,F,S)
def loopE (rid:Option Nat) (b again:Run) (E:Env) (F:Fr) (S:St):Option (Out × Fr × St):=
 match rid.bind E.lo with
 | some sp=>sp F S
 | none=>
  match b E F S with
  | none=>none
  | some (o,F,S)=>
   match o with
   | .normal=>again E F S
   | o=>some (o,F,S)
structure RunF where
 run:Run
def execF:Nat → Code → RunF
 | 0,_=>⟨fun _ _ _=>none⟩
 | n + 1,c=>
  match c with
  | .skip=>⟨fun _ F S=>some (.normal,F,S)⟩
  | .region id ops draw=>⟨regionE C id ops.toList (befOf ops) draw⟩
  | .seq a b=>⟨seqE (fun E F S=>match execF n a with | ⟨f⟩=>f E F S) (fun E F S=>match execF n b with | ⟨f⟩=>f E F S)⟩
  | .cond x a b=>⟨condE x (fun E F S=>match execF n a with | ⟨f⟩=>f E F S) (fun E F S=>match execF n b with | ⟨f⟩=>f E F S)⟩
  | .block id b=>⟨blockE id (fun E F S=>match execF n b with | ⟨f⟩=>f E F S)⟩
  | .loop b=>⟨loopE (firstRid b) (fun E F S=>match execF n b with | ⟨f⟩=>f E F S) (fun E F S=>match execF n (.loop b) with | ⟨f⟩=>f E F S)⟩
  | .exit id=>⟨fun _ F S=>some (.exit id,F,S)⟩
  | .ret=>⟨fun _ F S=>some (.ret,F,S)⟩
  | _=>⟨fun _ _ _=>none⟩
def exec (n:Nat) (c:Code):Run:=fun E F S=>
 match execF C n c with
 | ⟨f⟩=>f E F S
def resultVals (nv:Nat) (F:Fr) (S:St):List ResultVar → Option (List AV × St)
 | []=>some ([],S)
 | r :: rs=>
  match (match r with
   | .tmp t=>some (F.get nv t,S)
   | .cell a t=>loadOp C.P C.glob t (F.get nv a) S) with
  | none=>none
  | some (v,S)=>
   match resultVals nv F S rs with
   | none=>none
   | some (vs,S)=>some (v :: vs,S)
def resultVal:List AV → AV
 | [v]=>v
 | vs=>.tup vs
def callBody (fuel:Nat) (call:CallF) (f:FuncId) (args:List AV) (S:St):Option (AV × St):=
 match C.P.funcs[f]? with
 | none=>none
 | some fn=>
  match fn.body with
  | none=>none
  | some c=>
   match C.scope f && Nat.ble args.length fn.ntmps with
   | false=>none
   | true=>
   match exec C fuel c ⟨call,C.nv f,C.keep f,C.dyn f,C.loop f⟩ ⟨args ++ List.replicate (C.nv f - args.length) .undef,[]⟩ S with
   | some (.normal,F,S) | some (.ret,F,S)=>
    match resultVals C (C.nv f) F S fn.results.toList with
    | some (vs,S)=>some (resultVal vs,S)
    | none=>none
   | _=>none
def acall:Nat → Nat → CallF
 | 0,_=>fun _ _ _=>none
 | d + 1,fuel=>fun f args S=>
  match C.spec f with
  | some sp=>callSpec sp args S
  | none=>callBody C fuel (acall d fuel) f args S
end
end
section
class Co where
 main:Bool
 plain:FuncId → Prop
 mine:Nat → Prop
 rd:Nat → Nat → Prop
 jump:Program → Goroutine → World → (Goroutine → World → Prop) → Prop
def Soft (m:Mark):Prop:=Conc.Neutral m ∨ ∃ f,m = .extern f
def May [Co] (a:Addr) (wr:Bool):Prop:=a.spot = none ∧ (Co.mine a.block ∨ (wr = false ∧ Co.rd a.block a.off))
section
variable [Co]
open Classical in
noncomputable def _root_.Go.Sem.runQ {α:Type} (P:Program):Sem α → World → Result α
 | .pure a,w=>.ok a w
 | .load m a k,w=>match w.cell? a with
  | some v=>if m = .plain ∧ May a false then (k v).runQ P w else .halt (.stuck "") w
  | none=>.halt (.stuck "") w
 | .store _ _ (.agg _) _,w | .store _ _ (.tuple _) _,w=>.halt (.stuck "") w
 | .store m a v k,w=>match w.cell? a with
  | some _=>if w.frozen? a then .halt (.stuck "") w else if m = .plain ∧ May a true then k.runQ P (w.setCell a v) else .halt (.stuck "") w
  | none=>.halt (.stuck "") w
 | .new o k,w=>(k w.heap.size).runQ P { w with heap:=w.heap.push o }
 | .shape r k,w=>(k (w.shape? r)).runQ P w
 | .freeze a n k,w=>k.runQ P (w.freeze a n)
 | .frozen a k,w=>(k (w.frozen? a)).runQ P w
 | .getObj _ _,w=>.halt (.stuck "") w
 | .setObj _ _ _,w=>.halt (.stuck "") w
 | .choose q k,w=>
  if q.forced then (k 0).runQ P w
  else (k (q.cut (w.tape w.drawn q))).runQ P { w with drawn:=w.drawn + 1 }
 | .sys _ _,w=>.halt (.stuck "") w
 | .program k,w=>(k P).runQ P w
 | .mark m k,w=>if Soft m then k.runQ P w else .halt (.stuck "") w
 | .halt h,w=>.halt h w
def EvRaw (B:Nat) (e:Event):Prop:=(∃ a wr,e = ⟨.cell a,wr,false⟩ ∧ May a wr ∧ a.block < B) ∨ ∃ m,e = ⟨.mark m,false,true⟩ ∧ Soft m
def EvMay (B:Nat) (e:Event):Prop:=(∃ a wr,e = ⟨.cell a,wr,false⟩ ∧ May a wr ∧ a.block < B) ∨ ∃ m,e = ⟨.mark m,false,true⟩ ∧ Conc.Neutral m
theorem cell_lt {w:World} {a:Addr} {v:Value} (h:w.cell? a = some v):a.block < w.heap.size:=by
 unfold World.cell? at h
 split at h
 ·rename_i hb;exact (Array.getElem?_eq_some_iff.1 hb).1
 ·cases h
theorem setCell_size (w:World) (a:Addr) (v:Value):(w.setCell a v).heap.size = w.heap.size:=by simp [World.setCell]
theorem freeze_size (w:World) (a:Addr) (n:Nat):(w.freeze a n).heap.size = w.heap.size:=by
 unfold World.freeze;split <;> simp
theorem seen_ne (P:Program) (fn:FuncId) (es:Array Event):∀ e ∈ seen P fn es,∀ f,e.loc ≠ .mark (.extern f):=by
 rw [Conc.seen_def]
 have key:∀ (q:FuncId → Bool) (l:List Event) (acc:Bool × Array Event),(∀ e ∈ acc.2,∀ f,e.loc ≠ .mark (.extern f)) → ∀ e ∈ (l.foldl (Conc.seenStep q) acc).2,∀ f,e.loc ≠ .mark (.extern f):=by
  intro q l
  induction l with
  | nil=>intro acc h;exact h
  | cons x l ih=>
   intro acc h
   obtain ⟨q',kept⟩:=acc
   simp only [List.foldl_cons]
   refine ih _ ?_
   simp only [Conc.seenStep]
   split
   ·exact h
   ·rename_i hx
    split
    ·exact h
    ·intro e he f
     rcases Array.mem_push.1 he with he | rfl
     ·exact h e he f
     ·exact hx f
 exact key _ _ _ (by simp)
theorem EvRaw.seen [Co] {P:Program} {fn:FuncId} {es:Array Event} {B:Nat} (h:∀ e ∈ es,EvRaw B e):∀ e ∈ Go.seen P fn es,EvMay B e:=by
 intro e he
 rcases h e (Conc.mem_seen he) with h | ⟨m,rfl,hm | ⟨f,rfl⟩⟩
 ·exact .inl h
 ·exact .inr ⟨m,rfl,hm⟩
 ·exact absurd rfl (seen_ne P fn es _ he f)
theorem runQ_ok {α:Type} {P:Program}:∀ (s:Sem α) {w w':World} {v:α},s.runQ P w = .ok v w' →
 s.run P w = .ok v w' ∧ w.heap.size ≤ w'.heap.size ∧ ∀ e ∈ s.events P w #[],EvRaw w'.heap.size e:=by
 intro s
 induction s with
 | pure a=>intro w w' v h;simp only [Sem.runQ] at h;cases h;exact ⟨rfl,Nat.le_refl _,by simp [Sem.events,Sem.runT,-Sem.runT_eq]⟩
 | load m a k ih=>
  intro w w' v h
  simp only [Sem.runQ] at h
  split at h
  case h_2=>cases h
  rename_i u hu
  split at h
  case isFalse=>cases h
  rename_i hm
  obtain ⟨rfl,hm⟩:=hm
  obtain ⟨h1,h2,h3⟩:=ih u h
  refine ⟨by simp only [Sem.run,hu];exact h1,h2,?_⟩
  have e:(Sem.load .plain a k).events P w #[] = (k u).events P w (#[].push ⟨.cell a,false,false⟩):=by
   simp only [Sem.events,Sem.runT,hu];rfl
  rw [e,Sem.events_acc]
  intro x hx
  rcases Array.mem_append.1 hx with hx | hx
  ·simp at hx;subst hx;exact .inl ⟨a,false,rfl,hm,Nat.lt_of_lt_of_le (cell_lt hu) h2⟩
  ·exact h3 x hx
 | store m a v k ih=>
  intro w w' u h
  cases v with
  | agg x=>simp only [Sem.runQ] at h;cases h
  | tuple x=>simp only [Sem.runQ] at h;cases h
  | _=>
   simp only [Sem.runQ] at h
   split at h
   case h_2=>cases h
   rename_i c hc
   split at h
   ·cases h
   rename_i hf
   split at h
   case isFalse=>cases h
   rename_i hm
   obtain ⟨rfl,hm⟩:=hm
   obtain ⟨h1,h2,h3⟩:=ih h
   rw [setCell_size] at h2
   refine ⟨by simp only [Sem.run,hc,hf];exact h1,h2,?_⟩
   intro x hx
   simp only [Sem.events,Sem.runT,hc,hf] at hx
   change x ∈ Sem.events P k _ _ at hx
   rw [Sem.events_acc] at hx
   rcases Array.mem_append.1 hx with hx | hx
   ·simp at hx;subst hx;exact .inl ⟨a,true,rfl,hm,Nat.lt_of_lt_of_le (cell_lt hc) h2⟩
   ·exact h3 x hx
 | new o k ih=>
  intro w w' v h
  simp only [Sem.runQ] at h
  obtain ⟨h1,h2,h3⟩:=ih _ h
  exact ⟨by simp only [Sem.run];exact h1,by simp at h2;omega,fun x hx=>h3 x (by simpa only [Sem.events,Sem.runT] using hx)⟩
 | shape r k ih=>intro w w' v h;simp only [Sem.runQ] at h;obtain ⟨h1,h2,h3⟩:=ih _ h;exact ⟨by simp only [Sem.run];exact h1,h2,fun x hx=>h3 x (by simpa only [Sem.events,Sem.runT] using hx)⟩
 | freeze a n k ih=>
  intro w w' v h;simp only [Sem.runQ] at h;obtain ⟨h1,h2,h3⟩:=ih h
  rw [freeze_size] at h2
  exact ⟨by simp only [Sem.run];exact h1,h2,fun x hx=>h3 x (by simpa only [Sem.events,Sem.runT] using hx)⟩
 | frozen a k ih=>intro w w' v h;simp only [Sem.runQ] at h;obtain ⟨h1,h2,h3⟩:=ih _ h;exact ⟨by simp only [Sem.run];exact h1,h2,fun x hx=>h3 x (by simpa only [Sem.events,Sem.runT] using hx)⟩
 | getObj r k ih=>intro w w' v h;simp only [Sem.runQ] at h;cases h
 | setObj r o k ih=>intro w w' v h;simp only [Sem.runQ] at h;cases h
 | choose q k ih=>
  intro w w' v h
  simp only [Sem.runQ] at h
  split at h
  ·rename_i hq
   obtain ⟨h1,h2,h3⟩:=ih _ h
   exact ⟨by simp only [Sem.run,hq,if_true];exact h1,h2,fun x hx=>h3 x (by simpa only [Sem.events,Sem.runT,hq,if_true] using hx)⟩
  ·rename_i hq
   obtain ⟨h1,h2,h3⟩:=ih _ h
   exact ⟨by simp only [Sem.run,hq];exact h1,h2,fun x hx=>h3 x (by simpa only [Sem.events,Sem.runT,hq,Bool.false_eq_true,if_false] using hx)⟩
 | sys c k ih=>intro w w' v h;simp only [Sem.runQ] at h;cases h
 | program k ih=>intro w w' v h;simp only [Sem.runQ] at h;obtain ⟨h1,h2,h3⟩:=ih _ h;exact ⟨by simp only [Sem.run];exact h1,h2,fun x hx=>h3 x (by simpa only [Sem.events,Sem.runT] using hx)⟩
 | mark m k ih=>
  intro w w' v h
  simp only [Sem.runQ] at h
  split at h
  case isFalse=>cases h
  rename_i hm
  obtain ⟨h1,h2,h3⟩:=ih h
  refine ⟨by simp only [Sem.run];exact h1,h2,fun x hx=>?_⟩
  have e:(Sem.mark m k).events P w #[] = k.events P w (#[].push ⟨.mark m,false,true⟩):=by simp only [Sem.events,Sem.runT]
  rw [e,Sem.events_acc] at hx
  rcases Array.mem_append.1 hx with hx | hx
  ·simp at hx;subst hx;exact .inr ⟨m,rfl,hm⟩
  ·exact h3 x hx
 | halt h=>intro w w' v h';simp only [Sem.runQ] at h';cases h'
theorem Sem.runQ_bind' {α β:Type} (P:Program) (x:Sem α) (f:α → Sem β) (w:World) :
 (x.bind f).runQ P w = (x.runQ P w).andThen fun a w'=>(f a).runQ P w':=by
 induction x generalizing w with
 | pure a=>simp [Sem.bind,Sem.runQ]
 | load m a k ih=>simp only [Sem.bind,Sem.runQ];(repeat' split) <;> simp [ih]
 | store m a v k ih=>
  cases v <;> simp only [Sem.bind,Sem.runQ,Result.andThen_halt] <;> (try ((repeat' split) <;> simp [ih]))
 | new o k ih=>simp [Sem.bind,Sem.runQ,ih]
 | shape r k ih=>simp [Sem.bind,Sem.runQ,ih]
 | freeze a n k ih=>simp [Sem.bind,Sem.runQ,ih]
 | frozen a k ih=>simp [Sem.bind,Sem.runQ,ih]
 | getObj r k ih=>simp [Sem.bind,Sem.runQ]
 | setObj r o k ih=>simp [Sem.bind,Sem.runQ]
 | choose q k ih=>simp only [Sem.bind,Sem.runQ];split <;> simp [ih]
 | sys c k ih=>simp [Sem.bind,Sem.runQ]
 | program k ih=>simp [Sem.bind,Sem.runQ,ih]
 | mark m k ih=>simp only [Sem.bind,Sem.runQ];split <;> simp [ih]
 | halt h=>simp [Sem.bind,Sem.runQ]
section
variable {α β:Type} (P:Program) (w:World)
@[simp] theorem Sem.runQ_bind (x:Sem α) (f:α → Sem β):(x >>= f).runQ P w = (x.runQ P w).andThen fun a w'=>(f a).runQ P w':=Sem.runQ_bind' P x f w
@[simp] theorem Sem.runQ_map (x:Sem α) (f:α → β):(f <$> x).runQ P w = (x.runQ P w).andThen fun a w'=>.ok (f a) w':=Sem.runQ_bind' P x _ w
@[simp] theorem Sem.runQ_pure (a:α):(Pure.pure a:Sem α).runQ P w = .ok a w:=rfl
@[simp] theorem Sem.runQ_pure' (a:α):(Sem.pure a).runQ P w = .ok a w:=rfl
@[simp] theorem Sem.runQ_halt (h:Halt):(Sem.halt h:Sem α).runQ P w = .halt h w:=rfl
@[simp] theorem Sem.runQ_ite (c:Prop) [Decidable c] (x y:Sem α):(if c then x else y).runQ P w = if c then x.runQ P w else y.runQ P w:=by split <;> rfl
theorem runQ_load {a:Addr} {v:Value} (h:w.cell? a = some v) (hm:May a false):(load a).runQ P w = .ok v w:=by
 simp only [load,Sem.runQ,h,hm,and_self,if_true]
@[simp] theorem runQ_newObj (o:Obj):(newObj o).runQ P w = .ok w.heap.size { w with heap:=w.heap.push o }:=rfl
@[simp] theorem runQ_shape (r:Nat):(shape r).runQ P w = .ok (w.shape? r) w:=rfl
@[simp] theorem runQ_freeze (a:Addr) (n:Nat):(freeze a n).runQ P w = .ok () (w.freeze a n):=rfl
@[simp] theorem runQ_frozen (a:Addr):(frozen a).runQ P w = .ok (w.frozen? a) w:=rfl
@[simp] theorem runQ_program:program.runQ P w = .ok P w:=rfl
@[simp] theorem runQ_askRoom (n:Nat):(askRoom n).runQ P w = .ok () w:=by
 unfold askRoom
 split
 ·simp only [mark,Sem.runQ,Soft,Conc.Neutral,true_or,if_true]
 ·rfl
@[simp] theorem runQ_stuck (why:String):(stuck why:Sem α).runQ P w = .halt (.stuck why) w:=rfl
@[simp] theorem runQ_unsupported (u:Unsupported):(unsupported u:Sem α).runQ P w = .halt (.unsupported u) w:=rfl
@[simp] theorem runQ_goPanic (v:Value):(goPanic v:Sem α).runQ P w = .halt (.panic v) w:=rfl
@[simp] theorem runQ_choose (q:Question) :
 (choose q).runQ P w = if q.forced then .ok 0 w else .ok (q.cut (w.tape w.drawn q)) { w with drawn:=w.drawn + 1 }:=by
 simp only [choose,Sem.runQ]
end
theorem runQ_underlying {P:Program} {t:TypeId} {d:TypeDesc} (h:P.underlying t = some d) (w:World):(underlying t).runQ P w = .ok d w:=by simp [underlying,h]
theorem runQ_store (P:Program) (w:World) (a:Addr) (v:Value) {u:Value} (hv:v.oneCell' = true) (h:w.cell? a = some u) (hf:w.frozen? a = false) (hm:May a true) :
 (store a v).runQ P w = .ok () (w.setCell a v):=by
 cases v <;> first
  | (simp [Value.oneCell'] at hv;done)
  | (simp only [store,Sem.runQ,h,hf,hm,and_self,if_true];rfl)
structure Rely (w w₁:World):Prop where
 os:w₁.os = w.os
 tape:w₁.tape = w.tape
 output:w₁.output = w.output
 size:w.heap.size ≤ w₁.heap.size
 mine:∀ c,c < w.heap.size → Co.mine c → w₁.heap[c]? = w.heap[c]?
 rd:∀ c o,c < w.heap.size → Co.rd c o → w₁.cell? ⟨c,o,none⟩ = w.cell? ⟨c,o,none⟩
structure Gua (w w':World) (es:Array Event):Prop where
 os:w'.os = w.os
 tape:w'.tape = w.tape
 output:w'.output = w.output
 size:w.heap.size ≤ w'.heap.size
 far:∀ c,c < w.heap.size → ¬ Co.mine c → w'.heap[c]? = w.heap[c]?
 evs:∀ e ∈ es,EvMay w'.heap.size e
def New (w w':World):Prop:=∀ c,w.heap.size ≤ c → c < w'.heap.size → Co.mine c
theorem Rely.refl (w:World):Rely w w:=⟨rfl,rfl,rfl,Nat.le_refl _,fun _ _ _=>rfl,fun _ _ _ _=>rfl⟩
theorem Rely.trans {a b c:World} (h:Rely a b) (k:Rely b c):Rely a c:=
 ⟨k.os.trans h.os,k.tape.trans h.tape,k.output.trans h.output,Nat.le_trans h.size k.size,fun x hx hm=>(k.mine x (Nat.lt_of_lt_of_le hx h.size) hm).trans (h.mine x hx hm),
  fun x o hx hm=>(k.rd x o (Nat.lt_of_lt_of_le hx h.size) hm).trans (h.rd x o hx hm)⟩
theorem Gua.idle (w:World):Gua w w #[]:=⟨rfl,rfl,rfl,Nat.le_refl _,fun _ _ _=>rfl,by simp⟩
theorem Gua.drew (w:World):Gua w { w with drawn:=w.drawn + 1 } #[]:=⟨rfl,rfl,rfl,Nat.le_refl _,fun _ _ _=>rfl,by simp⟩
theorem Rely.cell {w w₁:World} (h:Rely w w₁) {c o:Nat} {v:Value} (hm:May ⟨c,o,none⟩ false) (hv:w.cell? ⟨c,o,none⟩ = some v):w₁.cell? ⟨c,o,none⟩ = some v:=by
 have hlt:=cell_lt hv
 rcases hm.2 with hm | ⟨_,hm⟩
 ·have:=h.mine c hlt hm
  unfold World.cell? at hv ⊢
  simp only at hv ⊢
  rw [this];exact hv
 ·rw [h.rd c o hlt hm];exact hv
end
end
section
open Conc
section
variable [Co]
inductive GoesJ (P:Program) (Stop:Goroutine → World → Prop):Goroutine → World → Prop
 | stop {g:Goroutine} {w:World}:(∀ w₁,Rely w w₁ → Stop g w₁) → GoesJ P Stop g w
 | step {g:Goroutine} {w:World}:g.status = .running → Co.plain g.frame.fn →
  (∀ w₁,Rely w w₁ → ∃ g' w' es,stepG P Co.main g w₁ = .go g' w' es ∧ (New w₁ w' → Gua w₁ w' es)) →
  (∀ w₁ g' w' es,Rely w w₁ → stepG P Co.main g w₁ = .go g' w' es → New w₁ w' → GoesJ P Stop g' w') → GoesJ P Stop g w
 | jump {g:Goroutine} {w:World} (K:World → Goroutine → World → Prop):(∀ w₁,Rely w w₁ → Co.jump P g w₁ (K w₁)) →
  (∀ w₁ g' w',Rely w w₁ → K w₁ g' w' → GoesJ P Stop g' w') → GoesJ P Stop g w
variable {P:Program} {Stop:Goroutine → World → Prop}
theorem GoesJ.rely {g:Goroutine} {w w₁:World} (h:GoesJ P Stop g w) (hr:Rely w w₁):GoesJ P Stop g w₁:=by
 cases h with
 | stop h=>exact .stop fun w₂ h₂=>h w₂ (hr.trans h₂)
 | step hs hp h k=>exact .step hs hp (fun w₂ h₂=>h w₂ (hr.trans h₂)) fun w₂ g' w' es h₂=>k w₂ g' w' es (hr.trans h₂)
 | jump K h k=>exact .jump K (fun w₂ h₂=>h w₂ (hr.trans h₂)) fun w₂ g' w' h₂=>k w₂ g' w' (hr.trans h₂)
theorem GoesJ.ctl {g g':Goroutine} {w:World} (hs:g.status = .running) (hp:Co.plain g.frame.fn) (h:∀ w₁,stepG P Co.main g w₁ = .go g' w₁) (hg:GoesJ P Stop g' w):GoesJ P Stop g w:=
 .step hs hp (fun w₁ _=>⟨g',w₁,#[],h w₁,fun _=>Gua.idle _⟩) fun w₁ g'' w' es hr e _=>by
  rw [h w₁] at e
  injection e with e1 e2
  subst e1 e2
  exact hg.rely hr
theorem GoesJ.one {g:Goroutine} {w:World} (hs:g.status = .running) (hp:Co.plain g.frame.fn) (h:∀ w₁,Rely w w₁ → ∃ g' w' es,stepG P Co.main g w₁ = .go g' w' es ∧ (New w₁ w' → Gua w₁ w' es ∧ GoesJ P Stop g' w')):GoesJ P Stop g w:=
 .step hs hp (fun w₁ h₁=>let ⟨g',w',es,e,k⟩:=h w₁ h₁;⟨g',w',es,e,fun n=>(k n).1⟩) fun w₁ g'' w'' es' h₁ e n=>by
  obtain ⟨g',w',es,e',k⟩:=h w₁ h₁
  rw [e] at e'
  injection e' with e1 e2 e3
  subst e1 e2 e3
  exact (k n).2
def OkF (b:Frame):Prop:=b.kind ≠ .early ∧ Co.plain b.fn
def AfterJ (P:Program) (Stop:Goroutine → World → Prop) (b:Frame) (k:List Item) (cs:List Frame):Exit → Act → World → Prop
 | .normal,a,w=>GoesJ P Stop (G (b.at a k) cs) w
 | .exit id,a,w=>∃ k',exitTo id k = some k' ∧ GoesJ P Stop (G (b.at a k') cs) w
 | .ret,a,w=>∀ todo,GoesJ P Stop (G { b.at a todo with mode:=.returning } cs) w
 | _,_,_=>False
theorem AfterJ.push {b:Frame} {x:Item} {k:List Item} {cs:List Frame} {e:Exit} {a:Act} {w:World} (hx:x.plain = true) (he:e ≠ .normal) (h:AfterJ P Stop b k cs e a w):AfterJ P Stop b (x :: k) cs e a w:=by
 cases e with
 | normal=>exact absurd rfl he
 | exit id=>obtain ⟨k',hk,hg⟩:=h;exact ⟨k',by cases x <;> simp_all [exitTo,Item.plain],hg⟩
 | ret=>exact h
 | goto l=>exact h
 | panic ch=>exact h
 | outgrown=>exact h
def _root_.Go.Code.wpj (P:Program) (c:Code) (Q:Exit → Act → World → Prop) (a:Act) (w:World):Prop:=
 ∀ (b:Frame) (k:List Item) (cs:List Frame) (Stop:Goroutine → World → Prop),OkF b →
  (∀ e a' w',Q e a' w' → AfterJ P Stop b k cs e a' w') → GoesJ P Stop (G (b.at a (.code c :: k)) cs) w
def OpsJ (P:Program) (ops:Array Oper) (todo:List Nat) (Q:Exit → Act → World → Prop) (a:Act) (w:World):Prop:=
 ∀ (b:Frame) (k:List Item) (cs:List Frame) (Stop:Goroutine → World → Prop),OkF b →
  (∀ e a' w',Q e a' w' → AfterJ P Stop b k cs e a' w') → GoesJ P Stop (G (b.at a (.inRegion ops todo :: k)) cs) w
structure LeavesJ (P:Program) (f:FuncId) (v:Value) (w:World) (fr:Frame):Prop where
 fn:fr.fn = f
 mode:fr.mode = .returning
 defers:fr.defers = []
 kind:fr.kind = .normal
 reads:∃ fn,P.funcs[f]? = some fn ∧ ∀ w₁,Rely w w₁ → (results fn fr.tmps).runQ P w₁ = .ok v w₁
def BackJ (P:Program) (Stop:Goroutine → World → Prop) (f:FuncId) (v:Value) (w:World):List Frame → Prop
 | c :: cs=>GoesJ P Stop (G (c.finish v) cs) w
 | []=>∀ fr,LeavesJ P f v w fr → GoesJ P Stop (G fr []) w
def CallsJ (P:Program) (f:FuncId) (args:Array Value) (w:World) (R:Ending → World → Prop):Prop:=
 ∀ (cs:List Frame) (Stop:Goroutine → World → Prop),(∀ v w',R (.returned v) w' → BackJ P Stop f v w' cs) → GoesJ P Stop (G (Frame.enter P f args .normal) cs) w
theorem CallsJ.mono {f:FuncId} {args:Array Value} {w:World} {R R':Ending → World → Prop} (h:CallsJ P f args w R) (hr:∀ e w',R e w' → R' e w'):CallsJ P f args w R':=
 fun cs Stop hc=>h cs Stop fun v w' hR=>hc v w' (hr _ _ hR)
section rules
variable {Q:Exit → Act → World → Prop} {a:Act} {w:World}
theorem wpj_mono {c:Code} {Q':Exit → Act → World → Prop} (h:c.wpj P Q a w) (hq:∀ e a w,Q e a w → Q' e a w):c.wpj P Q' a w:=
 fun b k cs Stop hk hc=>h b k cs Stop hk fun e a' w' q=>hc e a' w' (hq e a' w' q)
theorem wpj_skip (h:Q .normal a w):Code.skip.wpj P Q a w:=fun b k cs Stop hk hc=>.ctl rfl hk.2 (fun w₁=>stepG_skip) (hc _ _ _ h)
theorem wpj_ret (h:Q .ret a w):Code.ret.wpj P Q a w:=fun b k cs Stop hk hc=>.ctl rfl hk.2 (fun w₁=>stepG_ret') (hc _ _ _ h _)
theorem wpj_exit {id:Nat} (h:Q (.exit id) a w):(Code.exit id).wpj P Q a w:=fun b k cs Stop hk hc=>by
 obtain ⟨k',hk',hg⟩:=hc _ _ _ h
 exact .ctl rfl hk.2 (fun w₁=>stepG_exit hk') hg
theorem wpj_seq {x y:Code} (h:x.wpj P (Exit.then (fun a' w'=>y.wpj P Q a' w') Q) a w):(Code.seq x y).wpj P Q a w:=by
 intro b k cs Stop hk hc
 refine .ctl rfl hk.2 (fun w₁=>stepG_seq) (h b (.code y :: k) cs Stop hk fun e a' w' q=>?_)
 cases e with
 | normal=>exact q b k cs Stop hk hc
 | exit id=>exact (hc _ _ _ q).push rfl (by simp)
 | ret=>exact (hc _ _ _ q).push (x:=.code y) rfl (by simp)
 | goto l=>exact hc _ _ _ q
 | panic ch=>exact hc _ _ _ q
 | outgrown=>exact hc _ _ _ q
theorem wpj_cond_true {c:Operand} {x y:Code} (hc:a.eval c = .bool true) (h:x.wpj P Q a w):(Code.cond c x y).wpj P Q a w:=
 fun b k cs Stop hk hq=>.ctl rfl hk.2 (fun w₁=>stepG_cond hc) (h b k cs Stop hk hq)
theorem wpj_cond_false {c:Operand} {x y:Code} (hc:a.eval c = .bool false) (h:y.wpj P Q a w):(Code.cond c x y).wpj P Q a w:=
 fun b k cs Stop hk hq=>.ctl rfl hk.2 (fun w₁=>stepG_cond hc) (h b k cs Stop hk hq)
theorem wpj_block {id:Nat} {c:Code} (h:c.wpj P (Exit.inBlock id Q) a w):(Code.block id c).wpj P Q a w:=by
 intro b k cs Stop hk hc
 refine .ctl rfl hk.2 (fun w₁=>stepG_block) (h b (.inBlock id :: k) cs Stop hk fun e a' w' q=>?_)
 cases e with
 | normal=>exact .ctl rfl hk.2 (fun w₁=>stepG_inBlock) (hc _ _ _ q)
 | exit id'=>
  by_cases hid:id' = id
  ·simp only [Exit.inBlock,hid,if_true] at q
   exact ⟨k,by simp [exitTo,hid],hc _ _ _ q⟩
  ·simp only [Exit.inBlock,hid,if_false] at q
   obtain ⟨k',hk',hg⟩:=hc _ _ _ q
   have:(id == id') = false:=by simp;exact fun h=>hid h.symm
   exact ⟨k',by simp [exitTo,this,hk'],hg⟩
 | ret=>exact fun todo=>hc _ _ _ q todo
 | goto l=>exact hc _ _ _ q
 | panic ch=>exact hc _ _ _ q
 | outgrown=>exact hc _ _ _ q
def lwp (P:Program) (c:Code) (Q:Exit → Act → World → Prop) (a:Act) (w:World):Prop:=
 ∀ (b:Frame) (k:List Item) (cs:List Frame) (Stop:Goroutine → World → Prop),OkF b →
  (∀ e a' w',Q e a' w' → AfterJ P Stop b k cs e a' w') → GoesJ P Stop (G (b.at a (.code c :: .inLoop c :: k)) cs) w
theorem lwp_wp {c:Code} (h:lwp P c Q a w):(Code.loop c).wpj P Q a w:=fun b k cs Stop hk hc=>.ctl rfl hk.2 (fun w₁=>stepG_loop) (h b k cs Stop hk hc)
theorem lwp_once {c:Code} (h:c.wpj P (Exit.then (lwp P c Q) Q) a w):lwp P c Q a w:=by
 intro b k cs Stop hk hc
 refine h b (.inLoop c :: k) cs Stop hk fun e a' w' q=>?_
 cases e with
 | normal=>exact .ctl rfl hk.2 (fun w₁=>stepG_inLoop) (q b k cs Stop hk hc)
 | exit id=>exact (hc _ _ _ q).push rfl (by simp)
 | ret=>exact (hc _ _ _ q).push (x:=.inLoop c) rfl (by simp)
 | goto l=>exact hc _ _ _ q
 | panic ch=>exact hc _ _ _ q
 | outgrown=>exact hc _ _ _ q
end rules
structure Far (w w':World):Prop where
 os:w'.os = w.os
 tape:w'.tape = w.tape
 output:w'.output = w.output
 far:∀ c,c < w.heap.size → ¬ Co.mine c → w'.heap[c]? = w.heap[c]?
theorem Far.refl (w:World):Far w w:=⟨rfl,rfl,rfl,fun _ _ _=>rfl⟩
def _root_.Go.Oper.wpj (P:Program) (o:Oper) (a:Act) (w:World) (next:Act → World → Prop):Prop:=
 ∀ w₁,Rely w w₁ → ∃ r w',(execOp a.eval o).runQ P w₁ = .ok r w' ∧
  match r with
  | .value v=>New w₁ w' → Far w₁ w' ∧ next (a.put o.dst v) w'
  | .skip=>New w₁ w' → Far w₁ w' ∧ next (a.put o.dst undef) w'
  | .enter f args=>w' = w₁ ∧ CallsJ P f args w₁ fun
   | .returned v,w''=>next (a.put o.dst v) w''
   | _,_=>False
  | _=>False
theorem Oper.wpj_mono {o:Oper} {a:Act} {w:World} {K K':Act → World → Prop} (h:∀ a w,K a w → K' a w) (hh:o.wpj P a w K):o.wpj P a w K':=by
 intro w₁ h₁
 obtain ⟨r,w',e,hr⟩:=hh w₁ h₁
 refine ⟨r,w',e,?_⟩
 cases r <;> first | exact fun n=>⟨(hr n).1,h _ _ (hr n).2⟩ | exact ⟨hr.1,hr.2.mono fun e w'' he=>by cases e <;> first | exact h _ _ he | exact he⟩ | exact hr
theorem gua_of {α:Type} {s:Sem α} {w w':World} {v:α} (h:s.runQ P w = .ok v w') (hf:Far w w') (fn:FuncId):Gua w w' (seen P fn (s.events P w #[])):=by
 obtain ⟨_,h2,h3⟩:=runQ_ok s h
 exact ⟨hf.os,hf.tape,hf.output,h2,hf.far,EvRaw.seen h3⟩
theorem stepG_leaveE {main:Bool} {fr:Frame} {c:Frame} {cs:List Frame} {fn:Func} {w:World} {v:Value} (hm:fr.mode = .returning) (hd:fr.defers = []) (hk:fr.kind = .normal) (hf:P.funcs[fr.fn]? = some fn)
 (hr:(results fn fr.tmps).run P w = .ok v w):stepG P main (G fr (c :: cs)) w = .go (G (c.finish v) cs) w (seen P fr.fn ((results fn fr.tmps).events P w #[])):=by
 simp [G,stepG,unwind,doReturn,hm,hd,hk,hf,hr,GStep.after]
theorem GoesJ.leave {f:FuncId} {fr c:Frame} {cs:List Frame} {v:Value} {w:World} (hp:Co.plain f) (h:LeavesJ P f v w fr) (hg:GoesJ P Stop (G (c.finish v) cs) w):GoesJ P Stop (G fr (c :: cs)) w:=by
 obtain ⟨h1,h2,h3,h4,fn,h5,h6⟩:=h
 refine .one rfl (by show Co.plain fr.fn;rw [h1];exact hp) fun w₁ h₁=>?_
 refine ⟨_,_,_,stepG_leaveE h2 h3 h4 (by rw [h1];exact h5) (runQ_ok _ (h6 w₁ h₁)).1,fun _=>⟨gua_of (h6 w₁ h₁) (Far.refl _) _,hg.rely h₁⟩⟩
theorem opsJ_nil {ops:Array Oper} {Q:Exit → Act → World → Prop} {a:Act} {w:World} (h:Q .normal a w):OpsJ P ops [] Q a w:=fun b k cs Stop hk hc=>.ctl rfl hk.2 (fun w₁=>stepG_region_end) (hc _ _ _ h)
theorem opsJ_unwanted {ops:Array Oper} {i:Nat} {rest:List Nat} {o:Oper} {Q:Exit → Act → World → Prop} {a:Act} {w:World} (ho:ops[i]? = some o) (hw:Region.wanted o (yielded ops a.tmps) = false)
 (h:OpsJ P ops rest Q (a.put o.dst undef) w):OpsJ P ops (i :: rest) Q a w:=fun b k cs Stop hk hc=>.ctl rfl hk.2 (fun w₁=>stepG_unwanted ho hw) (h b k cs Stop hk hc)
theorem opsJ_cons {ops:Array Oper} {i:Nat} {rest:List Nat} {o:Oper} {Q:Exit → Act → World → Prop} {a:Act} {w:World} (ho:ops[i]? = some o) (hw:Region.wanted o (yielded ops a.tmps) = true)
 (h:o.wpj P a w fun a' w'=>OpsJ P ops rest Q a' w'):OpsJ P ops (i :: rest) Q a w:=by
 intro b k cs Stop hk hc
 refine .one rfl hk.2 fun w₁ h₁=>?_
 obtain ⟨r,w',hrun,hr⟩:=h w₁ h₁
 have h0:=(runQ_ok _ hrun).1
 cases r with
 | value v=>exact ⟨_,_,_,stepG_value ho hw hk.1 h0,fun n=>⟨gua_of hrun (hr n).1 _,(hr n).2 b k cs Stop hk hc⟩⟩
 | skip=>exact ⟨_,_,_,stepG_none ho hw hk.1 h0,fun n=>⟨gua_of hrun (hr n).1 _,(hr n).2 b k cs Stop hk hc⟩⟩
 | enter f args=>
  obtain ⟨rfl,hcall⟩:=hr
  refine ⟨_,_,_,stepG_enter ho hw hk.1 h0,fun n=>⟨gua_of hrun (Far.refl _) _,hcall _ _ fun v w'' hR=>?_⟩⟩
  simp only [BackJ]
  rw [Frame.finish_at,ho]
  exact hR b k cs Stop hk hc
 | _=>exact hr.elim
def wpOpsJ (P:Program) (ops:Array Oper) (Q:Exit → Act → World → Prop):List Nat → Act → World → Prop
 | [],a,w=>Q .normal a w
 | i :: rest,a,w=>
  match ops[i]? with
  | none=>False
  | some o=>if Region.wanted o (yielded ops a.tmps) then o.wpj P a w (wpOpsJ P ops Q rest) else wpOpsJ P ops Q rest (a.put o.dst undef) w
theorem wpOpsJ_sound {ops:Array Oper} {Q:Exit → Act → World → Prop}:∀ (todo:List Nat) (a:Act) (w:World),wpOpsJ P ops Q todo a w → OpsJ P ops todo Q a w
 | [],a,w,h=>opsJ_nil h
 | i :: rest,a,w,h=>by
  unfold wpOpsJ at h
  split at h
  ·exact h.elim
  ·rename_i o ho
   split at h
   ·rename_i hw;exact opsJ_cons ho hw (Oper.wpj_mono (fun a w=>wpOpsJ_sound rest a w) h)
   ·rename_i hw;exact opsJ_unwanted ho (by simpa using hw) (wpOpsJ_sound rest _ _ h)
section
variable {Q:Exit → Act → World → Prop} {a:Act} {w:World} {ops:Array Oper}
theorem wpj_region {id:Nat} (h:wpOpsJ P ops Q (List.range ops.size) a w):(Code.region id ops false).wpj P Q a w:=
 fun b k cs Stop hk hc=>.ctl rfl hk.2 (fun w₁=>stepG_region) (wpOpsJ_sound _ _ _ h b k cs Stop hk hc)
def wpOpJ (P:Program) (ops:Array Oper) (i:Nat) (K:Act → World → Prop) (a:Act) (w:World):Prop:=
 match ops[i]? with
 | none=>False
 | some o=>if Region.wanted o (yielded ops a.tmps) then o.wpj P a w K else K (a.put o.dst undef) w
theorem wpOpJ_mono {i:Nat} {a:Act} {w:World} {K K':Act → World → Prop} (h:∀ a w,K a w → K' a w) (hh:wpOpJ P ops i K a w):wpOpJ P ops i K' a w:=by
 unfold wpOpJ at *
 split
 ·simp_all
 ·rename_i o ho
  simp only [ho] at hh
  split
  ·rename_i hw;simp only [hw,if_true] at hh;exact Oper.wpj_mono h hh
  ·rename_i hw;simp only [hw] at hh;exact h _ _ hh
theorem wpOpsJ_cons (i:Nat) (rest:List Nat) (a:Act) (w:World):wpOpsJ P ops Q (i :: rest) a w = wpOpJ P ops i (wpOpsJ P ops Q rest) a w:=by
 simp only [wpOpsJ,wpOpJ]
def wpAnyJ (P:Program) (md:Region.Mode) (ops:Array Oper) (Q:Exit → Act → World → Prop):Nat → Array Bool → Act → World → Prop
 | 0,listed,a,w=>Region.ready md ops listed = [] ∧ Q .normal a w
 | fuel + 1,listed,a,w=>
  (Region.ready md ops listed = [] → Q .normal a w) ∧
  ∀ i ∈ Region.ready md ops listed,wpOpJ P ops i (wpAnyJ P md ops Q fuel (listed.setIfInBounds i true)) a w
theorem wpAnyJ_sound {md:Region.Mode}:∀ (fuel t:Nat) (listed:Array Bool) (a:Act) (w:World),wpAnyJ P md ops Q fuel listed a w →
 wpOpsJ P ops Q (Region.linearise.go md ops fuel t listed []) a w:=by
 intro fuel
 induction fuel with
 | zero=>intro t listed a w h;simpa [Region.linearise.go,wpOpsJ] using h.2
 | succ fuel ih=>
  intro t listed a w h
  obtain ⟨h₀,h₁⟩:=h
  simp only [Region.linearise.go]
  change wpOpsJ P ops Q (match (Region.ready md ops listed)[t % (Region.ready md ops listed).length]? with
   | some i=>Region.linearise.go md ops fuel (t / (Region.ready md ops listed).length) (listed.setIfInBounds i true) [i]
   | none=>[].reverse) a w
  cases hi:(Region.ready md ops listed)[t % (Region.ready md ops listed).length]? with
  | none=>
   have hnil:Region.ready md ops listed = []:=by
    cases hr:Region.ready md ops listed with
    | nil=>rfl
    | cons x xs=>
     rw [hr] at hi
     have hlt:t % (x :: xs).length < (x :: xs).length:=Nat.mod_lt _ (by simp)
     simp at hi
     simp at hlt
     omega
   simpa [wpOpsJ] using h₀ hnil
  | some i=>
   simp only []
   rw [linearise_go_acc,List.reverse_singleton,List.singleton_append,wpOpsJ_cons]
   exact wpOpJ_mono (fun a w=>ih _ _ a w) (h₁ i (List.mem_of_getElem? hi))
theorem stepG_drawn {main:Bool} {b:Frame} {k:List Item} {cs:List Frame} {id:Nat} :
 stepG P main (G (b.at a (.code (.region id ops true) :: k)) cs) w =
  .go (G (b.at a (.inRegion ops (Region.schedule (P.follows .mixedOrders) ops (w.tape w.drawn (.order b.fn id))) :: k)) cs) { w with drawn:=w.drawn + 1 }:=by
 simp [G,stepG,stepG.exec,Frame.at,choose,Sem.run,Question.forced,Question.cut]
theorem wpj_region_any {id:Nat} (hm:P.follows .mixedOrders = true)
 (h:∀ w₁,Rely w w₁ → wpAnyJ P .any ops Q ops.size (Array.replicate ops.size false) a { w₁ with drawn:=w₁.drawn + 1 }):(Code.region id ops true).wpj P Q a w:=by
 intro b k cs Stop hk hc
 refine .one rfl hk.2 fun w₁ h₁=>⟨_,_,_,stepG_drawn,fun _=>⟨Gua.drew _,?_⟩⟩
 simp only [Region.schedule,hm,Bool.true_or,if_true]
 exact wpOpsJ_sound _ _ _ (wpAnyJ_sound ops.size _ _ a _ (h w₁ h₁)) b k cs Stop hk hc
end
def bodyPostJ (P:Program) (fn:Func) (R:Ending → World → Prop):Exit → Act → World → Prop
 | .normal,a,w | .ret,a,w=>a.defers = [] ∧ ∃ v,(∀ w₁,Rely w w₁ → (results fn a.tmps).runQ P w₁ = .ok v w₁) ∧ R (.returned v) w
 | _,_,_=>False
theorem callsJ_of_wp {f:FuncId} {fn:Func} {c:Code} {args:Array Value} {w:World} {R:Ending → World → Prop} (hp:Co.plain f) (hf:P.funcs[f]? = some fn) (hb:fn.body = some c)
 (h:c.wpj P (bodyPostJ P fn R) { tmps:=args ++ Array.replicate (fn.ntmps - args.size) undef,defers:=[] } w):CallsJ P f args w R:=by
 intro cs Stop hc
 rw [enter_at _ hf hb]
 have back:∀ (fr:Frame) (v:Value) (w':World),R (.returned v) w' → LeavesJ P f v w' fr → GoesJ P Stop (G fr cs) w':=by
  intro fr v w' hR hl
  have:=hc v w' hR
  cases cs with
  | nil=>exact this fr hl
  | cons c cs=>exact .leave hp hl this
 refine h (base f) [] cs Stop ⟨by simp [base],hp⟩ fun e a' w' q=>?_
 cases e with
 | normal=>
  obtain ⟨hd,v,hr,hR⟩:=q
  exact .ctl rfl hp (fun w₁=>stepG_end) (back _ v w' hR ⟨rfl,rfl,hd,rfl,fn,hf,hr⟩)
 | ret=>
  obtain ⟨hd,v,hr,hR⟩:=q
  exact fun todo=>back _ v w' hR ⟨rfl,rfl,hd,rfl,fn,hf,hr⟩
 | _=>exact q.elim
end
end
section
def St.ok (S:St):Prop:=∀ b ∈ S.cond,b = true
structure Pure (S S':St):Prop where
 H:S'.H = S.H
 low:S'.low = S.low
 ok:S'.ok → S.ok
theorem Pure.refl (S:St):Pure S S:=⟨rfl,rfl,id⟩
theorem Pure.trans {a b c:St} (h:Pure a b) (k:Pure b c):Pure a c:=⟨k.H.trans h.H,k.low.trans h.low,fun o=>h.ok (k.ok o)⟩
theorem demand_pure (S:St) (b:Bool):Pure S (S.demand b):=⟨rfl,rfl,fun o x hx=>o x (List.mem_cons_of_mem _ hx)⟩
theorem demand_ok {S:St} {b:Bool} (h:(S.demand b).ok):b = true:=h b (List.mem_cons_self ..)
theorem B.test_spec {b:B} {S S':St} {t:Bool} (h:b.test S = some (t,S')):Pure S S' ∧ (S'.ok → b.v = t):=by
 unfold B.test at h
 cases b with
 | c b=>simp at h;obtain ⟨rfl,rfl⟩:=h;exact ⟨Pure.refl _,fun _=>rfl⟩
 | s b=>
  simp only at h
  cases hd:S.dec with
  | nil=>simp [hd] at h
  | cons d r=>
   simp [hd] at h
   obtain ⟨rfl,rfl⟩:=h
   refine ⟨⟨rfl,rfl,fun o x hx=>o x (List.mem_cons_of_mem _ hx)⟩,fun o=>?_⟩
   have:=o (b == d) (List.mem_cons_self ..)
   simpa [B.v] using this
theorem B.claim_spec {b:B} {S S':St} (h:b.claim S = some S'):Pure S S' ∧ (S'.ok → b.v = true):=by
 unfold B.claim at h
 cases b with
 | c b=>cases b <;> simp at h;subst h;exact ⟨Pure.refl _,fun _=>rfl⟩
 | s b=>simp at h;subst h;exact ⟨demand_pure _ _,fun o=>demand_ok o⟩
theorem intLe_eq (a b:Int):intLe a b = decide (a ≤ b):=by
 cases a <;> cases b <;> simp only [intLe]
 ·rw [Bool.eq_iff_iff];simp
 ·rw [Bool.eq_iff_iff];simp;omega
 ·rw [Bool.eq_iff_iff];simp;omega
 ·rw [Bool.eq_iff_iff];simp;omega
theorem intEq_eq (a b:Int):intEq a b = (a == b):=by
 cases a <;> cases b <;> simp only [intEq]
 ·rw [Bool.eq_iff_iff];simp;omega
 ·rw [Bool.eq_iff_iff];simp
 ·rw [Bool.eq_iff_iff];simp
 ·rw [Bool.eq_iff_iff];simp;omega
theorem intLt_eq (a b:Int):intLt a b = decide (a < b):=by
 unfold intLt;rw [intLe_eq,Bool.eq_iff_iff];simp;omega
theorem kindEq_spec {a b:IntKind} (h:kindEq a b = true):a = b:=by cases a <;> cases b <;> simp [kindEq] at h <;> rfl
theorem wrap_in (k:IntKind) (n:Int) (h1:lo k ≤ n) (h2:n ≤ hi k):k.wrap n = n:=by
 cases k <;> simp only [lo,hi] at h1 h2
 ·exact IntWalk.i8_in n ⟨h1,h2⟩
 ·exact IntWalk.i16_in n ⟨h1,h2⟩
 ·exact IntWalk.i32_in n ⟨h1,h2⟩
 ·exact IntWalk.i64_in n ⟨h1,h2⟩
 ·exact IntWalk.u8_in n ⟨h1,h2⟩
 ·exact IntWalk.u16_in n ⟨h1,h2⟩
 ·exact IntWalk.u32_in n ⟨h1,h2⟩
 ·exact IntWalk.u64_in n ⟨h1,h2⟩
theorem wrapF_eq (k:IntKind) (n:Int):wrapF k n = k.wrap n:=by
 unfold wrapF
 cases h1:intLe (lo k) n <;> simp only
 cases h2:intLe n (hi k) <;> simp only
 rw [intLe_eq] at h1 h2
 exact (wrap_in k n (by simpa using h1) (by simpa using h2)).symm
theorem B.and_v (a b:B):(a.and b).v = (a.v && b.v):=by cases a <;> cases b <;> rfl
theorem B.not_v (a:B):a.not.v = !a.v:=by cases a <;> rfl
theorem Z.lt_v (a b:Z):(a.lt b).v = decide (a.v < b.v):=by
 cases a <;> cases b <;> first | rfl | exact intLt_eq _ _
theorem Z.le_v (a b:Z):(a.le b).v = decide (a.v ≤ b.v):=by
 cases a <;> cases b <;> first | rfl | exact intLe_eq _ _
theorem Z.eq_v (a b:Z):(a.eq b).v = (a.v == b.v):=by cases a <;> cases b <;> simp [Z.eq,B.v,Z.v,intEq_eq]
theorem N.le_v (a b:N):(a.le b).v = decide (a.v ≤ b.v):=by
 cases a <;> cases b
 ·rename_i a b;show Nat.ble a b = decide (a ≤ b);rw [Bool.eq_iff_iff];simp
 ·rfl
 ·rfl
 ·rfl
theorem N.eq_v (a b:N):(a.eq b).v = (a.v == b.v):=by
 cases a <;> cases b
 ·rename_i a b;show Nat.beq a b = (a == b);rw [Bool.eq_iff_iff];simp
 ·rfl
 ·rfl
 ·rfl
theorem N.toZ_v (a:N):a.toZ.v = (a.v:Int):=by cases a <;> rfl
theorem Z.toN_v (a:Z):a.toN.v = a.v.toNat:=by cases a <;> rfl
theorem N.map2_v (f:Nat → Nat → Nat) (a b:N):(N.map2 f a b).v = f a.v b.v:=by cases a <;> cases b <;> rfl
theorem N.add_v (a b:N):(a.add b).v = a.v + b.v:=N.map2_v _ a b
theorem N.sub_v (a b:N):(a.sub b).v = a.v - b.v:=N.map2_v _ a b
theorem N.min_v (a b:N):(a.min b).v = Nat.min a.v b.v:=N.map2_v _ a b
theorem N.mulc_v (a:N) (n:Nat):(a.mulc n).v = a.v * n:=by cases a <;> rfl
def Num.k:Num → IntKind
 | .int k _=>k
 | .w8 _=>.u8
 | .w16 _=>.u16
 | .w32 _=>.u32
 | .w64 _=>.u64
def Num.val (x:Num):Value:=.int x.k x.z.v
theorem bvOf_spec {n:Nat} {k k':IntKind} {x:Int} {y:BitVec n} (h:bvOf n k k' x = some y):k = k' ∧ x = (y.toNat:Int):=by
 unfold bvOf at h
 cases hk:kindEq k k' with
 | false=>simp [hk] at h
 | true=>
  simp only [hk] at h
  cases x with
  | negSucc x=>simp at h
  | ofNat x=>
   simp only at h
   cases hb:Nat.blt x (2 ^ n) with
   | false=>simp [hb] at h
   | true=>
    simp [hb] at h
    refine ⟨kindEq_spec hk,?_⟩
    subst h
    have:x < 2 ^ n:=by simpa using hb
    simp [BitVec.toNat_ofNat,Nat.mod_eq_of_lt this]
theorem Num.bv8_spec {v:Num} {x:BitVec 8} (h:v.bv8 = some x):v.val = .int .u8 x.toNat:=by
 cases v with
 | int k z=>cases z <;> simp [Num.bv8] at h;obtain ⟨rfl,rfl⟩:=bvOf_spec h;rfl
 | w8 y=>simp [Num.bv8] at h;subst h;rfl
 | _=>simp [Num.bv8] at h
theorem Num.bv16_spec {v:Num} {x:BitVec 16} (h:v.bv16 = some x):v.val = .int .u16 x.toNat:=by
 cases v with
 | int k z=>cases z <;> simp [Num.bv16] at h;obtain ⟨rfl,rfl⟩:=bvOf_spec h;rfl
 | w16 y=>simp [Num.bv16] at h;subst h;rfl
 | _=>simp [Num.bv16] at h
theorem Num.bv32_spec {v:Num} {x:BitVec 32} (h:v.bv32 = some x):v.val = .int .u32 x.toNat:=by
 cases v with
 | int k z=>cases z <;> simp [Num.bv32] at h;obtain ⟨rfl,rfl⟩:=bvOf_spec h;rfl
 | w32 y=>simp [Num.bv32] at h;subst h;rfl
 | _=>simp [Num.bv32] at h
theorem Num.bv64_spec {v:Num} {x:BitVec 64} (h:v.bv64 = some x):v.val = .int .u64 x.toNat:=by
 cases v with
 | int k z=>cases z <;> simp [Num.bv64] at h;obtain ⟨rfl,rfl⟩:=bvOf_spec h;rfl
 | w64 y=>simp [Num.bv64] at h;subst h;rfl
 | _=>simp [Num.bv64] at h
inductive NRel:AV → Value → Prop
 | num (n:Num):NRel (.num n) n.val
 | bool (b:B):NRel (.atom (.bool b)) (.bool b.v)
theorem NRel.int (k:IntKind) (z:Z):NRel (.num (.int k z)) (.int k z.v):=.num (.int k z)
theorem NRel.w8 (x:BitVec 8):NRel (.num (.w8 x)) (.int .u8 x.toNat):=.num (.w8 x)
theorem NRel.w16 (x:BitVec 16):NRel (.num (.w16 x)) (.int .u16 x.toNat):=.num (.w16 x)
theorem NRel.w32 (x:BitVec 32):NRel (.num (.w32 x)) (.int .u32 x.toNat):=.num (.w32 x)
theorem NRel.w64 (x:BitVec 64):NRel (.num (.w64 x)) (.int .u64 x.toNat):=.num (.w64 x)
section words
variable [Co] {P:Program} (w:World)
def ukind:Nat → IntKind
 | 8=>.u8
 | 16=>.u16
 | 32=>.u32
 | _=>.u64
def width (n:Nat):Prop:=n = 8 ∨ n = 16 ∨ n = 32 ∨ n = 64
theorem ukind_bits {n:Nat} (h:width n):(ukind n).bits = n:=by rcases h with rfl | rfl | rfl | rfl <;> rfl
theorem ukind_wrap {n:Nat} (h:width n) (a:Int):(ukind n).wrap a = a % (2 ^ n:Nat):=by
 rcases h with rfl | rfl | rfl | rfl <;> simp [ukind,IntKind.wrap,IntKind.signed,IntKind.bits]
theorem wrap_ofNat_bv {n:Nat} (h:width n) (x:BitVec n):(ukind n).wrap (x.toNat:Int) = x.toNat:=by
 rw [ukind_wrap h]
 have:=x.isLt
 exact Int.emod_eq_of_lt (by omega) (by omega)
theorem bits_bv {n:Nat} (hn:width n) (x y:BitVec n) (op:BinOp) :
 (op = .and → (Op.intBits op (ukind n) x.toNat y.toNat).runQ P w = .ok (.int (ukind n) (x &&& y).toNat) w) ∧
 (op = .or → (Op.intBits op (ukind n) x.toNat y.toNat).runQ P w = .ok (.int (ukind n) (x ||| y).toNat) w) ∧
 (op = .xor → (Op.intBits op (ukind n) x.toNat y.toNat).runQ P w = .ok (.int (ukind n) (x ^^^ y).toNat) w) ∧
 (op = .andNot → (Op.intBits op (ukind n) x.toNat y.toNat).runQ P w = .ok (.int (ukind n) (x &&& ~~~y).toNat) w):=by
 have hw:=wrap_ofNat_bv hn
 rcases hn with rfl | rfl | rfl | rfl <;> refine ⟨?_,?_,?_,?_⟩ <;> rintro rfl <;>
  simp only [Op.intBits,ukind,IntKind.bits,BitVec.ofInt_natCast,BitVec.ofNat_toNat,BitVec.setWidth_eq,Sem.runQ_pure,Result.ok.injEq,Value.int.injEq,true_and,and_true] <;>
  exact hw _
theorem wOp_sound {n:Nat} (hn:width n) (mk:BitVec n → AV) (hmk:∀ x,NRel (mk x) (.int (ukind n) x.toNat)) (op:BinOp) (x y:BitVec n) (t:TypeId) {S S':St} {r:AV}
 (h:bvOp op n mk x y S = some (r,S')):Pure S S' ∧ (S'.ok → ∃ v,(binOp op t (.int (ukind n) x.toNat) (.int (ukind n) y.toNat)).runQ P w = .ok v w ∧ NRel r v):=by
 have hb:=bits_bv (P:=P) w hn x y op
 have hx:=x.isLt
 have hy:=y.isLt
 have hdiv:∀ (h0:y ≠ 0),¬ ((y.toNat:Int) = 0):=by
  intro h0 h1;apply h0;apply BitVec.eq_of_toNat_eq;simpa using h1
 cases op <;> simp only [bvOp,wOp,Option.some.injEq,Prod.mk.injEq,reduceCtorEq] at h <;> obtain ⟨rfl,rfl⟩:=h <;>
  first
   | refine ⟨Pure.refl _,fun _=>?_⟩
   | refine ⟨demand_pure _ _,fun o=>?_⟩
 case add=>
  refine ⟨_,?_,hmk _⟩
  simp [binOp,Op.intArith,ukind_wrap hn]
 case sub=>
  refine ⟨_,?_,hmk _⟩
  simp only [binOp,ne_eq,not_true_eq_false,if_false,Op.intArith,ukind_wrap hn,Sem.runQ_pure,BitVec.toNat_sub]
  have e:((2 ^ n - y.toNat + x.toNat:Nat):Int) = ((x.toNat:Int) - y.toNat) + ((2 ^ n:Nat):Int):=by omega
  rw [Int.natCast_emod,e,Int.add_emod_right]
 case mul=>
  refine ⟨_,?_,hmk _⟩
  simp [binOp,Op.intArith,ukind_wrap hn]
 case quo=>
  have h0:y ≠ 0:=by have:=demand_ok o;simpa using this
  refine ⟨_,?_,hmk _⟩
  have hq:((x.toNat:Int).tdiv y.toNat) = ((x / y).toNat:Int):=by
   rw [BitVec.toNat_udiv];rfl
  simp only [binOp,ne_eq,not_true_eq_false,if_false,Op.intDiv,hdiv h0,hq,wrap_ofNat_bv hn,Sem.runQ_pure]
 case rem=>
  have h0:y ≠ 0:=by have:=demand_ok o;simpa using this
  refine ⟨_,?_,hmk _⟩
  have hq:((x.toNat:Int).tmod y.toNat) = ((x % y).toNat:Int):=by
   rw [BitVec.toNat_umod];rfl
  simp only [binOp,ne_eq,not_true_eq_false,if_false,Op.intDiv,hdiv h0,hq,Sem.runQ_pure]
 case and=>exact ⟨_,by simpa [binOp] using hb.1 rfl,hmk _⟩
 case or=>exact ⟨_,by simpa [binOp] using hb.2.1 rfl,hmk _⟩
 case xor=>exact ⟨_,by simpa [binOp] using hb.2.2.1 rfl,hmk _⟩
 case andNot=>exact ⟨_,by simpa [binOp] using hb.2.2.2 rfl,hmk _⟩
 case eql=>
  refine ⟨_,?_,NRel.bool (.s (x == y))⟩
  simp only [binOp,ne_eq,not_true_eq_false,if_false,Op.intCmp,Sem.runQ_pure,B.v]
  congr 2
  rw [Bool.eq_iff_iff];simp [BitVec.toNat_eq];omega
 case neq=>
  refine ⟨_,?_,NRel.bool (.s (x != y))⟩
  simp only [binOp,ne_eq,not_true_eq_false,if_false,Op.intCmp,Sem.runQ_pure,B.v]
  congr 2
  rw [Bool.eq_iff_iff];simp [BitVec.toNat_eq];omega
 all_goals
  refine ⟨_,?_,NRel.bool (.s _)⟩
  simp only [binOp,ne_eq,not_true_eq_false,if_false,Op.intCmp,Sem.runQ_pure,B.v]
  congr 2
  rw [Bool.eq_iff_iff];simp only [decide_eq_true_eq];omega
theorem wSh_sound {n:Nat} (hn:width n) (mk:BitVec n → AV) (hmk:∀ x,NRel (mk x) (.int (ukind n) x.toNat)) (op:BinOp) (x:BitVec n) (s:Z) (t:TypeId) (yk:IntKind) {S S':St} {r:AV}
 (h:bvShift mk op x s S = some (r,S')):Pure S S' ∧ (S'.ok → ∃ v,(binOp op t (.int (ukind n) x.toNat) (.int yk s.v)).runQ P w = .ok v w ∧ NRel r v):=by
 unfold bvShift at h
 cases hc:((Z.c 0).le s).claim S with
 | none=>simp [hc] at h
 | some S1=>
  simp only [hc] at h
  obtain ⟨hp,hv⟩:=B.claim_spec hc
  have hx:=x.isLt
  cases op <;> simp only [bvSh,wSh,Option.some.injEq,Prod.mk.injEq,reduceCtorEq] at h <;> obtain ⟨rfl,rfl⟩:=h <;> refine ⟨hp,fun o=>?_⟩
  all_goals
   have h0:=hv o
   rw [Z.le_v] at h0
   have h0:0 ≤ s.v:=of_decide_eq_true h0
   refine ⟨_,?_,hmk _⟩
   simp only [binOp,Op.shift,if_neg (show ¬ s.v < 0 by omega),ukind_bits hn,Sem.runQ_pure]
   congr 2
  ·rw [ukind_wrap hn,BitVec.toNat_shiftLeft,Nat.shiftLeft_eq]
   by_cases hs:s.v.toNat ≤ n
   ·rw [Nat.min_eq_left hs]
    norm_cast
   ·rw [Nat.min_eq_right (by omega)]
    obtain ⟨d,hd⟩:∃ d,s.v.toNat = n + d:=⟨s.v.toNat - n,by omega⟩
    rw [hd,Nat.pow_add]
    have e1:((x.toNat:Int) * 2 ^ n) % ((2 ^ n:Nat):Int) = 0:=by
     push_cast;exact Int.mul_emod_left _ _
    rw [e1,← Nat.mul_assoc,Nat.mul_right_comm,Nat.mul_mod_left];rfl
  ·rw [BitVec.toNat_ushiftRight,Nat.shiftRight_eq_div_pow]
   have e0:∀ m:Nat,((x.toNat:Int).fdiv (2 ^ m)) = ((x.toNat / 2 ^ m:Nat):Int):=by
    intro m
    rw [Int.fdiv_eq_ediv_of_nonneg _ (by exact_mod_cast Nat.zero_le _)]
    norm_cast
   rw [e0]
   by_cases hs:s.v.toNat ≤ n
   ·rw [Nat.min_eq_left hs]
   ·rw [Nat.min_eq_right (by omega),Nat.div_eq_of_lt hx,Nat.div_eq_of_lt]
    exact Nat.lt_of_lt_of_le hx (Nat.pow_le_pow_right (by omega) (by omega))
end words
end
section
section
variable [Co] {P:Program} (w:World)
theorem cmp_sound {op:BinOp} {f:Z → Z → B} (h:cmpZ op = some f) (k:IntKind) (x y:Z) (t:TypeId) :
 (binOp op t (.int k x.v) (.int k y.v)).runQ P w = .ok (.bool (f x y).v) w:=by
 cases op <;> simp only [cmpZ,Option.some.injEq,reduceCtorEq] at h <;> subst h <;>
  simp only [binOp,ne_eq,not_true_eq_false,if_false,Op.intCmp,Sem.runQ_pure,Z.eq_v,Z.lt_v,Z.le_v,B.not_v] <;> rfl
theorem wrap_bits {k:IntKind} {f:(n:Nat) → BitVec n → BitVec n → BitVec n} (g:Nat → Nat → Nat) (hf:∀ n (x y:BitVec n),(f n x y).toNat = g x.toNat y.toNat)
 (a b:Nat) (ha:(a:Int) ≤ hi k) (hb:(b:Int) ≤ hi k) (hg:((g a b:Nat):Int) ≤ hi k) :
 k.wrap (f k.bits (BitVec.ofInt k.bits a) (BitVec.ofInt k.bits b)).toNat = (g a b:Nat):=by
 have hk:hi k < ((2 ^ k.bits:Nat):Int):=by cases k <;> decide
 have hl:lo k ≤ 0:=by cases k <;> decide
 have e1:(BitVec.ofInt k.bits (a:Int)).toNat = a:=by
  rw [BitVec.ofInt_natCast,BitVec.toNat_ofNat,Nat.mod_eq_of_lt (by omega)]
 have e2:(BitVec.ofInt k.bits (b:Int)).toNat = b:=by
  rw [BitVec.ofInt_natCast,BitVec.toNat_ofNat,Nat.mod_eq_of_lt (by omega)]
 rw [hf,e1,e2]
 exact wrap_in k _ (by omega) hg
theorem hi_pow (k:IntKind):∃ m,hi k = ((2 ^ m:Nat):Int) - 1:=by
 cases k
 ·exact ⟨7,by decide⟩
 ·exact ⟨15,by decide⟩
 ·exact ⟨31,by decide⟩
 ·exact ⟨63,by decide⟩
 ·exact ⟨8,by decide⟩
 ·exact ⟨16,by decide⟩
 ·exact ⟨32,by decide⟩
 ·exact ⟨64,by decide⟩
theorem land_le (k:IntKind) (a b:Nat) (ha:(a:Int) ≤ hi k):((a &&& b:Nat):Int) ≤ hi k:=by
 have:a &&& b ≤ a:=Nat.and_le_left
 omega
theorem lor_le (k:IntKind) (a b:Nat) (ha:(a:Int) ≤ hi k) (hb:(b:Int) ≤ hi k):((a ||| b:Nat):Int) ≤ hi k:=by
 obtain ⟨m,hm⟩:=hi_pow k
 have:a ||| b < 2 ^ m:=Nat.or_lt_two_pow (by omega) (by omega)
 omega
theorem xor_le (k:IntKind) (a b:Nat) (ha:(a:Int) ≤ hi k) (hb:(b:Int) ≤ hi k):((a ^^^ b:Nat):Int) ≤ hi k:=by
 obtain ⟨m,hm⟩:=hi_pow k
 have:a ^^^ b < 2 ^ m:=Nat.xor_lt_two_pow (by omega) (by omega)
 omega
theorem bitsF_eq (k:IntKind) (f:(n:Nat) → BitVec n → BitVec n → BitVec n) (g:Nat → Nat → Nat) (hf:∀ n (x y:BitVec n),(f n x y).toNat = g x.toNat y.toNat)
 (hg:∀ a b:Nat,(a:Int) ≤ hi k → (b:Int) ≤ hi k → ((g a b:Nat):Int) ≤ hi k) (a b:Int) :
 bitsF k (fun _=>k.wrap (f k.bits (BitVec.ofInt k.bits a) (BitVec.ofInt k.bits b)).toNat) g a b =
  k.wrap (f k.bits (BitVec.ofInt k.bits a) (BitVec.ofInt k.bits b)).toNat:=by
 unfold bitsF
 cases a <;> simp only
 cases b <;> simp only
 rename_i a b
 cases h1:intLe (Int.ofNat a) (hi k) <;> simp only
 cases h2:intLe (Int.ofNat b) (hi k) <;> simp only
 rw [intLe_eq] at h1 h2
 have h1:(a:Int) ≤ hi k:=of_decide_eq_true h1
 have h2:(b:Int) ≤ hi k:=of_decide_eq_true h2
 exact (wrap_bits g hf a b h1 h2 (hg a b h1 h2)).symm
theorem arithC_sound {op:BinOp} {f:IntKind → Int → Int → Option Z} (h:arithC op = some f) (k:IntKind) (a b:Int) {z:Z} (hz:f k a b = some z) (t:TypeId) :
 (binOp op t (.int k a) (.int k b)).runQ P w = .ok (.int k z.v) w:=by
 have hand:=bitsF_eq k (fun n x y=>x &&& y) Nat.land (fun n x y=>BitVec.toNat_and x y) (fun a b ha _=>land_le k a b ha)
 have hor:=bitsF_eq k (fun n x y=>x ||| y) Nat.lor (fun n x y=>BitVec.toNat_or x y) (fun a b ha hb=>lor_le k a b ha hb)
 have hxor:=bitsF_eq k (fun n x y=>x ^^^ y) Nat.xor (fun n x y=>BitVec.toNat_xor x y) (fun a b ha hb=>xor_le k a b ha hb)
 cases op <;> simp only [arithC,Option.some.injEq,reduceCtorEq] at h <;> subst h
 case add=>simp only [Option.some.injEq] at hz;subst hz;simp [binOp,Op.intArith,Z.v,wrapF_eq]
 case sub=>simp only [Option.some.injEq] at hz;subst hz;simp [binOp,Op.intArith,Z.v,wrapF_eq]
 case mul=>simp only [Option.some.injEq] at hz;subst hz;simp [binOp,Op.intArith,Z.v,wrapF_eq]
 case quo=>
  simp only at hz
  cases hb:intEq b 0 with
  | true=>simp [hb] at hz
  | false=>
   simp only [hb,Option.some.injEq] at hz;subst hz
   rw [intEq_eq] at hb
   have hb:¬ b = 0:=by simpa using hb
   simp [binOp,Op.intDiv,Z.v,wrapF_eq,hb]
 case rem=>
  simp only at hz
  cases hb:intEq b 0 with
  | true=>simp [hb] at hz
  | false=>
   simp only [hb,Option.some.injEq] at hz;subst hz
   rw [intEq_eq] at hb
   have hb:¬ b = 0:=by simpa using hb
   simp [binOp,Op.intDiv,Z.v,hb]
 case and=>simp only [Option.some.injEq] at hz;subst hz;simp only [binOp,ne_eq,not_true_eq_false,if_false,Op.intBits,Sem.runQ_pure,Z.v,hand]
 case or=>simp only [Option.some.injEq] at hz;subst hz;simp only [binOp,ne_eq,not_true_eq_false,if_false,Op.intBits,Sem.runQ_pure,Z.v,hor]
 case xor=>simp only [Option.some.injEq] at hz;subst hz;simp only [binOp,ne_eq,not_true_eq_false,if_false,Op.intBits,Sem.runQ_pure,Z.v,hxor]
 case andNot=>simp only [Option.some.injEq] at hz;subst hz;simp only [binOp,ne_eq,not_true_eq_false,if_false,Op.intBits,Sem.runQ_pure,Z.v]
theorem arithS_sound {op:BinOp} {f:IntKind → Int → Int → St → AV × St} (h:arithS op = some f) (k:IntKind) (a b:Int) (S:St) (t:TypeId) :
 Pure S (f k a b S).2 ∧ ((f k a b S).2.ok → ∃ v,(binOp op t (.int k a) (.int k b)).runQ P w = .ok v w ∧ NRel (f k a b S).1 v):=by
 cases op <;> simp only [arithS,Option.some.injEq,reduceCtorEq] at h <;> subst h <;> refine ⟨demand_pure _ _,fun o=>?_⟩ <;>
  have hd:=of_decide_eq_true (demand_ok o) <;> refine ⟨_,?_,NRel.int _ _⟩
 case add=>simp [binOp,Op.intArith,Z.v,wrap_in k _ hd.1 hd.2]
 case sub=>simp [binOp,Op.intArith,Z.v,wrap_in k _ hd.1 hd.2]
 case mul=>simp [binOp,Op.intArith,Z.v,wrap_in k _ hd.1 hd.2]
 case quo=>
  obtain ⟨h1,h2,h3⟩:=hd
  have hb:¬ b = 0:=by omega
  have hl:lo k ≤ 0:=by cases k <;> decide
  have e:a.tdiv b = a / b:=Int.tdiv_eq_ediv_of_nonneg h1
  have q1:0 ≤ a / b:=Int.ediv_nonneg h1 (by omega)
  have q2:a / b ≤ a:=Int.ediv_le_self b h1
  simp only [binOp,ne_eq,not_true_eq_false,if_false,Op.intDiv,hb,Sem.runQ_pure,Z.v]
  rw [wrap_in k _ (by omega) (by omega)]
 case rem=>simp only [binOp,ne_eq,not_true_eq_false,if_false,Op.intDiv,(show ¬ b = 0 from hd),Sem.runQ_pure,Z.v]
 case and=>simp only [binOp,ne_eq,not_true_eq_false,if_false,Op.intBits,Sem.runQ_pure,Z.v,andV]
 case or=>simp only [binOp,ne_eq,not_true_eq_false,if_false,Op.intBits,Sem.runQ_pure,Z.v,orV]
 case andNot=>simp only [binOp,ne_eq,not_true_eq_false,if_false,Op.intBits,Sem.runQ_pure,Z.v,andNotV]
 case xor=>
  obtain ⟨h1,h2,h3,h4⟩:=hd
  obtain ⟨x,rfl⟩:=Int.eq_ofNat_of_zero_le h1
  obtain ⟨y,rfl⟩:=Int.eq_ofNat_of_zero_le h2
  have e:=wrap_bits (k:=k) (f:=fun n x y=>x ^^^ y) (fun a b=>a ^^^ b) (fun n x y=>BitVec.toNat_xor x y) x y h3 h4 (xor_le k x y h3 h4)
  simp only [binOp,ne_eq,not_true_eq_false,if_false,Op.intBits,Sem.runQ_pure,Z.v,e,Int.toNat_natCast]
theorem intArith_sound {op:BinOp} {k:IntKind} {x y:Z} {S S':St} {r:AV} (h:intArith op k x y S = some (r,S')) (t:TypeId) :
 Pure S S' ∧ (S'.ok → ∃ v,(binOp op t (.int k x.v) (.int k y.v)).runQ P w = .ok v w ∧ NRel r v):=by
 unfold intArith at h
 cases hc:cmpZ op with
 | some f=>
  simp only [hc,Option.some.injEq,Prod.mk.injEq] at h
  obtain ⟨rfl,rfl⟩:=h
  exact ⟨Pure.refl _,fun _=>⟨_,cmp_sound w hc k x y t,.bool _⟩⟩
 | none=>
  simp only [hc] at h
  have hs:∀ a b,arithSE op k a b S = some (r,S') → Pure S S' ∧ (S'.ok → ∃ v,(binOp op t (.int k a) (.int k b)).runQ P w = .ok v w ∧ NRel r v):=by
   intro a b h
   unfold arithSE at h
   cases ha:arithS op with
   | none=>simp [ha] at h
   | some f=>
    simp only [ha,Option.some.injEq] at h
    have:=arithS_sound (P:=P) w ha k a b S t
    rw [h] at this
    exact this
  cases x with
  | s a=>
   cases y with
   | s b=>exact hs _ _ h
   | c b=>exact hs _ _ h
  | c a=>
   cases y with
   | s b=>exact hs _ _ h
   | c b=>
    simp only at h
    cases ha:arithC op with
    | none=>simp [ha] at h
    | some f=>
     simp only [ha] at h
     cases hz:f k a b with
     | none=>simp [hz] at h
     | some z=>
      simp only [hz,Option.some.injEq,Prod.mk.injEq] at h
      obtain ⟨rfl,rfl⟩:=h
      exact ⟨Pure.refl _,fun _=>⟨_,arithC_sound w ha k a b hz t,.int _ _⟩⟩
theorem shiftC_sound {op:BinOp} {k:IntKind} {a r:Int} {n:Nat} (h:shiftC op k a n = some r) (t:TypeId) (yk:IntKind) :
 (binOp op t (.int k a) (.int yk n)).runQ P w = .ok (.int k r) w:=by
 have hn:¬ ((n:Int) < 0):=by omega
 cases op <;> simp only [shiftC,reduceCtorEq] at h
 case shl=>
  cases a with
  | ofNat x=>
   simp only [Option.some.injEq] at h;subst h
   simp only [binOp,Op.shift,hn,if_false,Int.toNat_natCast,Sem.runQ_pure,wrapF_eq]
   congr 3
   show Int.ofNat x * 2 ^ min n k.bits = Int.ofNat (x <<< (min n k.bits))
   rw [Nat.shiftLeft_eq];simp
  | negSucc x=>
   simp only [Option.some.injEq] at h;subst h
   simp only [binOp,Op.shift,hn,if_false,Int.toNat_natCast,Sem.runQ_pure]
 case shr=>
  cases a with
  | ofNat x=>
   simp only [Option.some.injEq] at h;subst h
   simp only [binOp,Op.shift,hn,if_false,Int.toNat_natCast,Sem.runQ_pure]
   congr 2
   show (Int.ofNat x).fdiv (2 ^ min n k.bits) = Int.ofNat (x >>> (min n k.bits))
   rw [Nat.shiftRight_eq_div_pow,Int.fdiv_eq_ediv_of_nonneg _ (by exact_mod_cast Nat.zero_le _)]
   simp
  | negSucc x=>
   simp only [Option.some.injEq] at h;subst h
   simp only [binOp,Op.shift,hn,if_false,Int.toNat_natCast,Sem.runQ_pure]
theorem shiftI_sound {op:BinOp} {k:IntKind} {z s:Z} {S S':St} {r:AV} (h:shiftI k z op s S = some (r,S')) (t:TypeId) (yk:IntKind) :
 Pure S S' ∧ (S'.ok → ∃ v,(binOp op t (.int k z.v) (.int yk s.v)).runQ P w = .ok v w ∧ NRel r v):=by
 unfold shiftI at h
 cases s with
 | s b=>simp at h
 | c b=>
  simp only at h
  cases h0:intLe 0 b with
  | false=>simp [h0] at h
  | true=>
   rw [intLe_eq] at h0
   have h0':0 ≤ b:=of_decide_eq_true h0
   obtain ⟨n,rfl⟩:=Int.eq_ofNat_of_zero_le h0'
   simp only [show intLe 0 (n:Int) = true by rw [intLe_eq];exact h0] at h
   have hn:¬ ((n:Int) < 0):=by omega
   cases z with
   | c a=>
    simp only [Int.toNat_natCast] at h
    cases hs:shiftC op k a n with
    | none=>simp [hs] at h
    | some r'=>
     simp only [hs,Option.some.injEq,Prod.mk.injEq] at h
     obtain ⟨rfl,rfl⟩:=h
     exact ⟨Pure.refl _,fun _=>⟨_,shiftC_sound w hs t yk,.int _ _⟩⟩
   | s a=>
    simp only [Int.toNat_natCast] at h
    cases hb:Nat.blt n k.bits with
    | false=>simp [hb] at h
    | true=>
     have hb':n < k.bits:=by simpa using hb
     have hm:min n k.bits = n:=Nat.min_eq_left (by omega)
     cases op <;> simp only [hb,Option.some.injEq,Prod.mk.injEq,reduceCtorEq] at h <;> obtain ⟨rfl,rfl⟩:=h
     ·refine ⟨Pure.refl _,fun o=>⟨_,?_,NRel.int _ _⟩⟩
      simp only [binOp,Op.shift,Z.v,hn,if_false,Int.toNat_natCast,hm,Sem.runQ_pure,shlV]
     ·refine ⟨Pure.refl _,fun o=>⟨_,?_,NRel.int _ _⟩⟩
      simp only [binOp,Op.shift,Z.v,hn,if_false,Int.toNat_natCast,hm,Sem.runQ_pure]
      rw [Int.fdiv_eq_ediv_of_nonneg _ (by exact_mod_cast Nat.zero_le _)]
theorem bvBin_sound {n:Nat} (hn:width n) (mk:BitVec n → AV) (hmk:∀ x,NRel (mk x) (.int (ukind n) x.toNat)) {op:BinOp} {x y:Option (BitVec n)} {S S':St} {r:AV} {vx vy:Value}
 (hx:∀ b,x = some b → vx = .int (ukind n) b.toNat) (hy:∀ b,y = some b → vy = .int (ukind n) b.toNat) (h:bvBin mk op x y S = some (r,S')) (t:TypeId) :
 Pure S S' ∧ (S'.ok → ∃ v,(binOp op t vx vy).runQ P w = .ok v w ∧ NRel r v):=by
 unfold bvBin at h
 cases x with
 | none=>simp at h
 | some x=>
  cases y with
  | none=>simp at h
  | some y=>
   rw [hx x rfl,hy y rfl]
   exact wOp_sound w hn mk hmk op x y t h
theorem w8':width 8:=.inl rfl
theorem w16':width 16:=.inr (.inl rfl)
theorem w32':width 32:=.inr (.inr (.inl rfl))
theorem w64':width 64:=.inr (.inr (.inr rfl))
theorem numOp_sound {x y:Num} {op:BinOp} {S S':St} {r:AV} (h:numOp x y op S = some (r,S')) (t:TypeId) :
 Pure S S' ∧ (S'.ok → ∃ v,(binOp op t x.val y.val).runQ P w = .ok v w ∧ NRel r v):=by
 have one:∀ {n:Nat} (b c:BitVec n),some b = some c → (Value.int (ukind n) b.toNat) = .int (ukind n) c.toNat:=by
  intro n b c e;injection e with e;rw [e]
 cases x with
 | int k a=>
  simp only [numOp] at h
  cases y with
  | int k' b=>
   simp only [intOp] at h
   cases hk:kindEq k k' with
   | false=>simp [hk] at h
   | true=>
    simp only [hk] at h
    obtain rfl:=kindEq_spec hk
    exact intArith_sound w h t
  | w8 y=>exact bvBin_sound w w8' .w8 (fun x=>NRel.w8 x) (fun b hb=>Num.bv8_spec hb) (fun b hb=>one y b hb) h t
  | w16 y=>exact bvBin_sound w w16' .w16 (fun x=>NRel.w16 x) (fun b hb=>Num.bv16_spec hb) (fun b hb=>one y b hb) h t
  | w32 y=>exact bvBin_sound w w32' .w32 (fun x=>NRel.w32 x) (fun b hb=>Num.bv32_spec hb) (fun b hb=>one y b hb) h t
  | w64 y=>exact bvBin_sound w w64' .w64 (fun x=>NRel.w64 x) (fun b hb=>Num.bv64_spec hb) (fun b hb=>one y b hb) h t
 | w8 x=>exact bvBin_sound w w8' .w8 (fun x=>NRel.w8 x) (fun b hb=>one x b hb) (fun b hb=>Num.bv8_spec hb) h t
 | w16 x=>exact bvBin_sound w w16' .w16 (fun x=>NRel.w16 x) (fun b hb=>one x b hb) (fun b hb=>Num.bv16_spec hb) h t
 | w32 x=>exact bvBin_sound w w32' .w32 (fun x=>NRel.w32 x) (fun b hb=>one x b hb) (fun b hb=>Num.bv32_spec hb) h t
 | w64 x=>exact bvBin_sound w w64' .w64 (fun x=>NRel.w64 x) (fun b hb=>one x b hb) (fun b hb=>Num.bv64_spec hb) h t
theorem shiftOp_sound {x y:Num} {op:BinOp} {S S':St} {r:AV} (h:shiftOp x op y.z S = some (r,S')) (t:TypeId) :
 Pure S S' ∧ (S'.ok → ∃ v,(binOp op t x.val y.val).runQ P w = .ok v w ∧ NRel r v):=by
 cases x with
 | int k z=>exact shiftI_sound w h t y.k
 | w8 x=>exact wSh_sound w w8' .w8 (fun x=>NRel.w8 x) op x y.z t y.k h
 | w16 x=>exact wSh_sound w w16' .w16 (fun x=>NRel.w16 x) op x y.z t y.k h
 | w32 x=>exact wSh_sound w w32' .w32 (fun x=>NRel.w32 x) op x y.z t y.k h
 | w64 x=>exact wSh_sound w w64' .w64 (fun x=>NRel.w64 x) op x y.z t y.k h
theorem binop_sound {op:BinOp} {x y r:AV} {S S':St} (h:binop op x y S = some (r,S')) (t:TypeId) :
 ∃ a b,x = .num a ∧ y = .num b ∧ Pure S S' ∧ (S'.ok → ∃ v,(binOp op t a.val b.val).runQ P w = .ok v w ∧ NRel r v):=by
 unfold Eng.binop at h
 cases x <;> try (simp at h;done)
 rename_i a
 cases y <;> try (simp at h;done)
 rename_i b
 refine ⟨a,b,rfl,rfl,?_⟩
 simp only at h
 cases hs:isShift op with
 | true=>simp only [hs] at h;exact shiftOp_sound w h t
 | false=>simp only [hs] at h;exact numOp_sound w h t
theorem convW_sound {k:IntKind} {n:Nat} {a b c d:AV} {S S':St} {r:AV} (h:convW k n a b c d S = some (r,S'))
 (ha:NRel a (.int .u8 (IntKind.u8.wrap n))) (hb:NRel b (.int .u16 (IntKind.u16.wrap n))) (hc:NRel c (.int .u32 (IntKind.u32.wrap n))) (hd:NRel d (.int .u64 (IntKind.u64.wrap n))) :
 Pure S S' ∧ (S'.ok → NRel r (.int k (k.wrap n))):=by
 cases k <;> simp only [convW,Option.some.injEq,Prod.mk.injEq] at h <;> obtain ⟨rfl,rfl⟩:=h
 case u8=>exact ⟨Pure.refl _,fun _=>ha⟩
 case u16=>exact ⟨Pure.refl _,fun _=>hb⟩
 case u32=>exact ⟨Pure.refl _,fun _=>hc⟩
 case u64=>exact ⟨Pure.refl _,fun _=>hd⟩
 all_goals
  refine ⟨demand_pure _ _,fun o=>?_⟩
  have hd:=of_decide_eq_true (demand_ok o)
  rw [wrap_in _ _ (by simp only [lo];omega) hd]
  exact NRel.int _ _
theorem setW {n m:Nat} (hm:width m) (x:BitVec n) (mk:BitVec m → AV) (hmk:∀ x,NRel (mk x) (.int (ukind m) x.toNat)):NRel (mk (x.setWidth m)) (.int (ukind m) ((ukind m).wrap x.toNat)):=by
 have:=hmk (x.setWidth m)
 rw [ukind_wrap hm]
 rw [BitVec.toNat_setWidth] at this
 rwa [← Int.natCast_emod]
theorem sameW {m:Nat} (hm:width m) (x:BitVec m) (mk:BitVec m → AV) (hmk:∀ x,NRel (mk x) (.int (ukind m) x.toNat)):NRel (mk x) (.int (ukind m) ((ukind m).wrap x.toNat)):=by
 rw [wrap_ofNat_bv hm];exact hmk x
theorem ofIntW {m:Nat} (hm:width m) (n:Int) (mk:BitVec m → AV) (hmk:∀ x,NRel (mk x) (.int (ukind m) x.toNat)):NRel (mk (BitVec.ofInt m n)) (.int (ukind m) ((ukind m).wrap n)):=by
 have:=hmk (BitVec.ofInt m n)
 rw [ukind_wrap hm]
 rw [BitVec.toNat_ofInt,Int.toNat_of_nonneg (Int.emod_nonneg _ (by rcases hm with rfl | rfl | rfl | rfl <;> decide))] at this
 exact this
theorem convI_sound {k:IntKind} {n:Int} {S S':St} {r:AV} (h:convI n k S = some (r,S')):Pure S S' ∧ (S'.ok → NRel r (.int k (k.wrap n))):=by
 cases k <;> simp only [convI,Option.some.injEq,Prod.mk.injEq] at h <;> obtain ⟨rfl,rfl⟩:=h
 case u8=>exact ⟨Pure.refl _,fun _=>ofIntW w8' n .w8 (fun x=>NRel.w8 x)⟩
 case u16=>exact ⟨Pure.refl _,fun _=>ofIntW w16' n .w16 (fun x=>NRel.w16 x)⟩
 case u32=>exact ⟨Pure.refl _,fun _=>ofIntW w32' n .w32 (fun x=>NRel.w32 x)⟩
 case u64=>exact ⟨Pure.refl _,fun _=>ofIntW w64' n .w64 (fun x=>NRel.w64 x)⟩
 all_goals
  refine ⟨demand_pure _ _,fun o=>?_⟩
  have hd:=of_decide_eq_true (demand_ok o)
  rw [wrap_in _ _ hd.1 hd.2]
  exact NRel.int _ _
theorem convN_sound {x:Num} {k:IntKind} {S S':St} {r:AV} (h:convN x k S = some (r,S')):Pure S S' ∧ (S'.ok → NRel r (.int k (k.wrap x.z.v))):=by
 have g8:∀ {n:Nat} (x:BitVec n),NRel (.num (.w8 (x.setWidth 8))) (.int .u8 (IntKind.u8.wrap x.toNat)):=fun x=>setW w8' x .w8 (fun x=>NRel.w8 x)
 have g16:∀ {n:Nat} (x:BitVec n),NRel (.num (.w16 (x.setWidth 16))) (.int .u16 (IntKind.u16.wrap x.toNat)):=fun x=>setW w16' x .w16 (fun x=>NRel.w16 x)
 have g32:∀ {n:Nat} (x:BitVec n),NRel (.num (.w32 (x.setWidth 32))) (.int .u32 (IntKind.u32.wrap x.toNat)):=fun x=>setW w32' x .w32 (fun x=>NRel.w32 x)
 have g64:∀ {n:Nat} (x:BitVec n),NRel (.num (.w64 (x.setWidth 64))) (.int .u64 (IntKind.u64.wrap x.toNat)):=fun x=>setW w64' x .w64 (fun x=>NRel.w64 x)
 cases x with
 | int k0 z=>
  cases z with
  | c n=>
   simp only [convN,Option.some.injEq,Prod.mk.injEq] at h
   obtain ⟨rfl,rfl⟩:=h
   refine ⟨Pure.refl _,fun _=>?_⟩
   have:=NRel.int k (.c (wrapF k n))
   rw [wrapF_eq] at this
   simpa [Z.v,Num.z,wrapF_eq] using this
  | s n=>exact convI_sound h
 | w8 x=>exact convW_sound h (sameW w8' x .w8 (fun x=>NRel.w8 x)) (g16 x) (g32 x) (g64 x)
 | w16 x=>exact convW_sound h (g8 x) (sameW w16' x .w16 (fun x=>NRel.w16 x)) (g32 x) (g64 x)
 | w32 x=>exact convW_sound h (g8 x) (g16 x) (sameW w32' x .w32 (fun x=>NRel.w32 x)) (g64 x)
 | w64 x=>exact convW_sound h (g8 x) (g16 x) (g32 x) (sameW w64' x .w64 (fun x=>NRel.w64 x))
theorem neg_bv {n:Nat} (hn:width n) (x:BitVec n):(ukind n).wrap (0 - (x.toNat:Int)) = ((0#n - x).toNat:Int):=by
 have hx:=x.isLt
 rw [ukind_wrap hn,BitVec.toNat_sub]
 have e0:(0#n).toNat = 0:=by simp
 have e:((2 ^ n - x.toNat + (0#n).toNat:Nat):Int) = (0 - (x.toNat:Int)) + ((2 ^ n:Nat):Int):=by rw [e0];omega
 rw [Int.natCast_emod,e,Int.add_emod_right]
theorem com_bv {n:Nat} (hn:width n) (x:BitVec n):(Op.intBits .xor (ukind n) (if (ukind n).signed then -1 else (ukind n).max) x.toNat).runQ P w = .ok (.int (ukind n) ((~~~x).toNat)) w:=by
 have hw:=wrap_ofNat_bv hn (~~~x)
 rw [← BitVec.allOnes_xor] at hw
 rcases hn with rfl | rfl | rfl | rfl <;>
  simp only [Op.intBits,ukind,IntKind.bits,IntKind.signed,IntKind.max,BitVec.ofInt_natCast,BitVec.ofNat_toNat,BitVec.setWidth_eq,Sem.runQ_pure,Result.ok.injEq,Value.int.injEq,true_and,and_true,← BitVec.allOnes_xor,Bool.false_eq_true,if_false] <;>
  exact hw
theorem unop_sound {op:UnOp} {x r:AV} {vx:Value} (hx:NRel x vx) (h:unop op x = some r):∃ v,(Op.unary op vx).runQ P w = .ok v w ∧ NRel r v:=by
 cases hx with
 | bool b=>
  cases op <;> simp only [unop,Option.some.injEq,reduceCtorEq] at h
  subst h
  exact ⟨_,rfl,by rw [← B.not_v];exact .bool _⟩
 | num n=>
  cases op <;> simp only [unop,Option.some.injEq,reduceCtorEq] at h
  ·cases n with
   | int k z=>
    cases z <;> simp only [negN,Option.some.injEq,reduceCtorEq] at h
    subst h
    rename_i n;exact ⟨_,rfl,by have:=NRel.int k (.c (wrapF k (0 - n)));rw [wrapF_eq] at this ⊢;exact this⟩
   | w8 x=>simp only [negN,Option.some.injEq] at h;subst h;exact ⟨_,rfl,by have:=NRel.w8 (0#8 - x);rw [← neg_bv w8'] at this;exact this⟩
   | w16 x=>simp only [negN,Option.some.injEq] at h;subst h;exact ⟨_,rfl,by have:=NRel.w16 (0#16 - x);rw [← neg_bv w16'] at this;exact this⟩
   | w32 x=>simp only [negN,Option.some.injEq] at h;subst h;exact ⟨_,rfl,by have:=NRel.w32 (0#32 - x);rw [← neg_bv w32'] at this;exact this⟩
   | w64 x=>simp only [negN,Option.some.injEq] at h;subst h;exact ⟨_,rfl,by have:=NRel.w64 (0#64 - x);rw [← neg_bv w64'] at this;exact this⟩
  ·cases n with
   | int k z=>
    cases z <;> simp only [comN,Option.some.injEq,reduceCtorEq] at h
    subst h
    rename_i n;exact ⟨_,rfl,NRel.int k (.c _)⟩
   | w8 x=>simp only [comN,Option.some.injEq] at h;subst h;exact ⟨_,com_bv w w8' x,.w8 _⟩
   | w16 x=>simp only [comN,Option.some.injEq] at h;subst h;exact ⟨_,com_bv w w16' x,.w16 _⟩
   | w32 x=>simp only [comN,Option.some.injEq] at h;subst h;exact ⟨_,com_bv w w32' x,.w32 _⟩
   | w64 x=>simp only [comN,Option.some.injEq] at h;subst h;exact ⟨_,com_bv w w64' x,.w64 _⟩
end
end
section
open Conc
abbrev Rel:=World → World → Prop
abbrev Grd:=World → World → Array Event → Prop
abbrev Stops:=Goroutine → World → Prop
inductive Way (P:Program) (main:Bool) (R:Rel) (D:Grd) (Stop:Stops):Goroutine → World → Prop
 | stop {g:Goroutine} {w:World}:(∀ w₁,R w w₁ → Stop g w₁) → Way P main R D Stop g w
 | step {g:Goroutine} {w:World}:g.status = .running →
  (∀ w₁,R w w₁ → ∃ g' w' es,stepG P main g w₁ = .go g' w' es ∧ D w₁ w' es) →
  (∀ w₁ g' w' es,R w w₁ → stepG P main g w₁ = .go g' w' es → Way P main R D Stop g' w') → Way P main R D Stop g w
variable {P:Program} {main:Bool} {R:Rel} {D:Grd} {Stop Stop':Stops} {g:Goroutine} {w w₁:World}
theorem Way.mono (hS:∀ g w,Stop g w → Stop' g w) (h:Way P main R D Stop g w):Way P main R D Stop' g w:=by
 induction h with
 | stop h=>exact .stop fun w₁ h₁=>hS _ _ (h w₁ h₁)
 | step hs h _ ih=>exact .step hs h fun w₁ g' w' es h₁ e=>ih w₁ g' w' es h₁ e
theorem Way.rely (tr:∀ a b c,R a b → R b c → R a c) (h:Way P main R D Stop g w) (hr:R w w₁):Way P main R D Stop g w₁:=by
 cases h with
 | stop h=>exact .stop fun w₂ h₂=>h w₂ (tr _ _ _ hr h₂)
 | step hs h k=>exact .step hs (fun w₂ h₂=>h w₂ (tr _ _ _ hr h₂)) fun w₂ g' w' es h₂=>k w₂ g' w' es (tr _ _ _ hr h₂)
theorem Way.one (hs:g.status = .running) (h:∀ w₁,R w w₁ → ∃ g' w' es,stepG P main g w₁ = .go g' w' es ∧ D w₁ w' es ∧ Way P main R D Stop g' w'):Way P main R D Stop g w:=
 .step hs (fun w₁ h₁=>let ⟨g',w',es,e,d,_⟩:=h w₁ h₁;⟨g',w',es,e,d⟩) fun w₁ g' w' es h₁ e=>by
  obtain ⟨g₂,w₂,es₂,e₂,_,hw⟩:=h w₁ h₁
  rw [e] at e₂;cases e₂;exact hw
theorem Way.trans (rf:∀ w,R w w) (tr:∀ a b c,R a b → R b c → R a c) (h:Way P main R D Stop g w) (k:∀ g w,Stop g w → Way P main R D Stop' g w):Way P main R D Stop' g w:=by
 induction h with
 | @stop g w h=>
  have h0:=k g w (h w (rf w))
  exact h0
 | step hs h _ ih=>exact .step hs h fun w₁ g' w' es h₁ e=>ih w₁ g' w' es h₁ e
theorem Way.of_goes (tr:∀ a b c,R a b → R b c → R a c) {n:Nat} (h:Goes P main R D Stop n g w):Way P main R D Stop g w:=by
 induction n generalizing g w with
 | zero=>exact .stop h
 | succ n ih=>
  rcases h with h | ⟨hs,h⟩
  ·exact .stop h
  ·refine .one hs fun w₁ h₁=>?_
   have:=h w₁ h₁
   cases hg:stepG P main g w₁ with
   | go g' w' es=>rw [hg] at this;exact ⟨g',w',es,rfl,this.1,ih this.2⟩
   | _=>rw [hg] at this;exact this.elim
theorem Way.weaken {R':Rel} {D':Grd} (hR:∀ a b,R' a b → R a b) (hD:∀ a b es,D a b es → D' a b es) (h:Way P main R D Stop g w):Way P main R' D' Stop g w:=by
 induction h with
 | stop h=>exact .stop fun w₁ h₁=>h w₁ (hR _ _ h₁)
 | step hs h _ ih=>
  refine .step hs (fun w₁ h₁=>?_) fun w₁ g' w' es h₁ e=>ih w₁ g' w' es (hR _ _ h₁) e
  obtain ⟨g',w',es,e,d⟩:=h w₁ (hR _ _ h₁)
  exact ⟨g',w',es,e,hD _ _ _ d⟩
theorem Way.of_goesJ [Co] {n0:Nat} (hj:∀ g w K,¬ Co.jump P g w K) (hn:∀ c,n0 ≤ c → Co.mine c) (h:GoesJ P Stop g w) (h0:n0 ≤ w.heap.size):Way P Co.main Rely Gua Stop g w:=by
 induction h with
 | stop h=>exact .stop h
 | step hs _ h _ ih=>
  have new:∀ w₁ w',Rely _ w₁ → New w₁ w':=fun w₁ w' h₁ c hc _=>hn c (Nat.le_trans h0 (Nat.le_trans h₁.size hc))
  refine .step hs (fun w₁ h₁=>?_) fun w₁ g' w' es h₁ e=>ih w₁ g' w' es h₁ e (new _ _ h₁) ?_
  ·obtain ⟨g',w',es,e,d⟩:=h w₁ h₁
   exact ⟨g',w',es,e,d (new _ _ h₁)⟩
  ·obtain ⟨g₂,w₂,es₂,e₂,d⟩:=h w₁ h₁
   rw [e] at e₂;cases e₂
   exact Nat.le_trans h0 (Nat.le_trans h₁.size (d (new _ _ h₁)).size)
 | @jump g w K h _ _=>exact (hj _ _ _ (h w (Rely.refl w))).elim
inductive WTr where
 | leaf
 | node (f:World → WTr)
inductive WTr.Below:WTr → WTr → Prop
 | mk (f:World → WTr) (w:World):WTr.Below (f w) (.node f)
theorem WTr.wf:WellFounded WTr.Below:=⟨fun t=>by
 induction t with
 | leaf=>exact ⟨_,fun y h=>by cases h⟩
 | node f ih=>exact ⟨_,fun y h=>by cases h;exact ih _⟩⟩
def WayT (P:Program) (main:Bool) (R:Rel) (D:Grd) (Stop:Stops):WTr → Goroutine → World → Prop
 | .leaf,g,w=>∀ w₁,R w w₁ → Stop g w₁
 | .node f,g,w=>g.status = .running ∧ ∀ w₁,R w w₁ → ∃ g' w' es,stepG P main g w₁ = .go g' w' es ∧ D w₁ w' es ∧ WayT P main R D Stop (f w₁) g' w'
theorem WayT.rely (tr:∀ a b c,R a b → R b c → R a c) {t:WTr} (h:WayT P main R D Stop t g w) (hr:R w w₁):WayT P main R D Stop t g w₁:=by
 cases t with
 | leaf=>exact fun w₂ h₂=>h w₂ (tr _ _ _ hr h₂)
 | node f=>exact ⟨h.1,fun w₂ h₂=>h.2 w₂ (tr _ _ _ hr h₂)⟩
theorem WayT.status (rf:∀ w,R w w) (hS:∀ g w,Stop g w → g.status = .running) {t:WTr} (h:WayT P main R D Stop t g w):g.status = .running:=by
 cases t with
 | leaf=>exact hS g w (h w (rf w))
 | node f=>exact h.1
open Classical in
theorem Way.tree (h:Way P main R D Stop g w):∃ t,WayT P main R D Stop t g w:=by
 induction h with
 | stop h=>exact ⟨.leaf,h⟩
 | @step g w hs h _ ih=>
  have key:∀ w₁,∃ t,R w w₁ → ∃ g' w' es,stepG P main g w₁ = .go g' w' es ∧ D w₁ w' es ∧ WayT P main R D Stop t g' w':=by
   intro w₁
   by_cases h₁:R w w₁
   ·obtain ⟨g',w',es,e,d⟩:=h w₁ h₁
    obtain ⟨t,ht⟩:=ih w₁ g' w' es h₁ e
    exact ⟨t,fun _=>⟨g',w',es,e,d,ht⟩⟩
   ·exact ⟨.leaf,fun x=>absurd x h₁⟩
  exact ⟨.node fun w₁=>(key w₁).choose,hs,fun w₁ h₁=>(key w₁).choose_spec h₁⟩
theorem WayT.cases (rf:∀ w,R w w) {t:WTr} (h:WayT P main R D Stop t g w) :
 (t = .leaf ∧ ∀ w₁,R w w₁ → Stop g w₁) ∨ ∃ t' g' w' es,WTr.Below t' t ∧ stepG P main g w = .go g' w' es ∧ D w w' es ∧ WayT P main R D Stop t' g' w':=by
 cases t with
 | leaf=>exact .inl ⟨rfl,h⟩
 | node f=>
  obtain ⟨g',w',es,e,d,k⟩:=h.2 w (rf w)
  exact .inr ⟨f w,g',w',es,.mk f w,e,d,k⟩
end
section
open Conc
open Go.ConcX (stA smA OfWg)
open Go.ConcN (RelBy fork_knows)
structure LT (Sh:Loc → Prop) (Wg B d:Nat) (T:Trace):Prop where
 clean:∀ said,¬ Race said T
 known:∀ i a,touchAt T i = some a → a.loc.isMemory = true → Knows T 0 i ∨ (Sh a.loc ∧ a.kind = .atomic)
 over:T.HandedOver
 deaf:Deaf T 0 = d
 seen:∀ op ∈ T,op.act.low B
 wgq:∀ i a,touchAt T i = some a → OfWg Wg a.loc → a.kind ≠ .plain ∧ (a.kind = .said → T.g? i = some 0)
 norel:NoRelease (stA Wg) T
def EvLT (Sh:Loc → Prop) (Wg B:Nat) (e:Event):Prop:=
 (∀ x,(MemAct.ofEvent e).touch? = some x → (Sh x.loc → x.kind ≠ .plain) ∧ (OfWg Wg x.loc → x.kind ≠ .plain)) ∧ MemAct.ofEvent e ≠ .mark (.release (stA Wg)) ∧ (MemAct.ofEvent e).low B
def Ow (Sh:Loc → Prop) (Wg:Nat) (Keep:Nat → Prop) (l:Loc):Prop:=∃ a,l = .cell a ∧ a.block ≠ Wg ∧ ¬ Keep a.block ∧ ¬ Sh (.cell a)
def KpW (Keep:Nat → Prop) (l:Loc):Prop:=∃ a,l = .cell a ∧ Keep a.block
structure PT (Sh:Loc → Prop) (Wg:Nat) (Keep:Nat → Prop) (c B d0 d1:Nat) (rel:Prop) (T:Trace):Prop where
 clean:∀ said,¬ Race said T
 known0:∀ i a,touchAt T i = some a → a.loc.isMemory = true → Knows T 0 i ∨ (Sh a.loc ∧ a.kind = .atomic) ∨ (OfWg Wg a.loc ∧ a.kind = .atomic) ∨
  (T.g? i = some c ∧ a.kind = .plain ∧ (Ow Sh Wg Keep a.loc ∨ (KpW Keep a.loc ∧ a.write = false)))
 known1:∀ i a,touchAt T i = some a → a.loc.isMemory = true → Ow Sh Wg Keep a.loc ∨ (KpW Keep a.loc ∧ a.write = true) → Knows T c i
 wgq:∀ i a,touchAt T i = some a → OfWg Wg a.loc → a.kind ≠ .plain ∧ (a.kind = .said → T.g? i = some 0)
 over:∀ i g,T.g? i = some g → g ≠ 0 → g ≠ c → T.counts i → ∃ j,T.g? j = some 0 ∧ HappensBefore T i j
 deaf0:Deaf T 0 = d0
 deaf1:Deaf T c = d1
 norel:NoRelease (stA Wg) T
 seen:∀ op ∈ T,op.act.low B
 rel:rel → ∃ r,RelBy (stA Wg) T c r
section
variable {Sh:Loc → Prop} {Wg B d:Nat} {T u:Trace} {Keep:Nat → Prop} {c d0 d1:Nat} {rel:Prop}
theorem touch_new {i:Nat} {a:Touch} (h:touchAt (T ++ u) i = some a):(touchAt T i = some a ∧ i < T.size) ∨ (T.size ≤ i ∧ ∃ op,(T ++ u)[i]? = some op ∧ op ∈ u ∧ op.act.touch? = some a):=by
 obtain ⟨x,hx,hxa⟩:=touch_of h
 rcases getElem?_append_cases hx with ⟨hl,hx'⟩ | ⟨hl,hxu⟩
 ·exact .inl ⟨by rw [touchAt_of hx'];exact hxa,hl⟩
 ·exact .inr ⟨hl,x,hx,hxu,hxa⟩
theorem g_new {i:Nat} {op:MemOp} (h:(T ++ u)[i]? = some op):(T ++ u).g? i = some op.g:=by simp [Trace.g?,h]
theorem g_old' {i:Nat} (h:i < T.size):(T ++ u).g? i = T.g? i:=g?_old h
theorem norel_mute {e:Event} (h:e.mute = true) (a:Addr):MemAct.ofEvent e ≠ .mark (.release a):=by
 obtain ⟨loc,wr,sy⟩:=e
 cases loc with
 | mark m=>cases m <;> simp_all [Event.mute,MemAct.ofEvent]
 | _=>simp_all [Event.mute]
theorem LT.own (h:LT Sh Wg B d T) {B':Nat} (hB:B ≤ B') {fn:FuncId} {pos:String} {es:Array Event} (hes:∀ e ∈ es,EvLT Sh Wg B' e):LT Sh Wg B' (deafBehind d es) (T ++ MemOp.ofEvents 0 fn pos es):=by
 have hu:∀ op ∈ MemOp.ofEvents 0 fn pos es,op.g = 0 ∧ ∃ e ∈ es,op.act = .ofEvent e:=fun op hop=>by obtain ⟨e,he,rfl⟩:=Go.Conc.mem_ofEvents hop;exact ⟨rfl,e,he,rfl⟩
 refine ⟨fun said=>noRace_append (h.clean said) (fun op hop=>(hu op hop).1) fun i a ha op hop b hb hc=>?_,fun i a ha hm=>?_,handedOver_app h.over fun op hop=>.inl (hu op hop).1,by rw [Deaf_own,h.deaf],
  fun op hop=>(Array.mem_append.1 hop).elim (fun x=>MemAct.low_mono hB (h.seen op x)) fun x=>by obtain ⟨_,e,he,ha⟩:=hu op x;rw [ha];exact (hes e he).2.2,fun i a ha hw=>?_,
  h.norel.app fun op hop=>by obtain ⟨_,e,he,ha⟩:=hu op hop;rw [ha];exact (hes e he).2.1⟩
 ·rcases h.known i a ha hc.2.1 with hk | ⟨hsa,hka⟩
  ·exact hk
  ·obtain ⟨_,e,he,hae⟩:=hu op hop
   have hkb:=((hes e he).1 b (hae ▸ hb)).1 (hc.1 ▸ hsa)
   rcases hc.2.2.2 with x | x | ⟨_,x,_⟩
   ·rw [hka] at x;cases x
   ·exact absurd x hkb
   ·rw [hka] at x;cases x
 ·rcases touch_new ha with ⟨ha',_⟩ | ⟨_,op,hop,hou,_⟩
  ·exact (h.known i a ha' hm).imp (·.app _) id
  ·have:=knows_own hop
   rw [(hu op hou).1] at this
   exact .inl this
 ·rcases touch_new ha with ⟨ha',hl⟩ | ⟨_,op,hop,hou,hoa⟩
  ·rw [g_old' hl];exact h.wgq i a ha' hw
  ·obtain ⟨h0,e,he,hae⟩:=hu op hou
   refine ⟨((hes e he).1 a (hae ▸ hoa)).2 hw,fun _=>?_⟩
   rw [g_new hop,h0]
theorem LT.mute (h:LT Sh Wg B d T) {g:Nat} (hg:g ≠ 0) {fn:FuncId} {pos:String} {es:Array Event} (hm:∀ e ∈ es,e.mute = true):LT Sh Wg B d (T ++ MemOp.ofEvents g fn pos es):=by
 have hu:∀ op ∈ MemOp.ofEvents g fn pos es,op.g = g ∧ op.act.touch? = none ∧ op.act.low B ∧ op.act ≠ .mark (.release (stA Wg)):=fun op hop=>by
  obtain ⟨e,he,rfl⟩:=Go.Conc.mem_ofEvents hop
  exact ⟨rfl,touch_mute (hm e he),low_mute (hm e he) B,norel_mute (hm e he) _⟩
 refine ⟨fun said=>noRace_append (h.clean said) (fun op hop=>(hu op hop).1) fun i a _ op hop b hb _=>(by rw [(hu op hop).2.1] at hb;cases hb),fun i a ha hm'=>?_,handedOver_app h.over fun op hop=>.inr (hu op hop).2.1,
  (Deaf_other T hg _ fun op hop=>(hu op hop).1).trans h.deaf,fun op hop=>(Array.mem_append.1 hop).elim (h.seen op) fun x=>(hu op x).2.2.1,fun i a ha hw=>?_,h.norel.app fun op hop=>(hu op hop).2.2.2⟩
 ·rcases touch_new ha with ⟨ha',_⟩ | ⟨_,op,_,hou,hoa⟩
  ·exact (h.known i a ha' hm').imp (·.app _) id
  ·rw [(hu op hou).2.1] at hoa;cases hoa
 ·rcases touch_new ha with ⟨ha',hl⟩ | ⟨_,op,_,hou,hoa⟩
  ·rw [g_old' hl];exact h.wgq i a ha' hw
  ·rw [(hu op hou).2.1] at hoa;cases hoa
theorem LT.of_past (h:Past Sh B T) (hW:B ≤ Wg):LT Sh Wg B 0 T:=by
 have low:∀ i a,touchAt T i = some a → ∀ ad,a.loc = .cell ad → ad.block < B:=fun i a ha ad e=>by
  obtain ⟨x,hx,hxa⟩:=touch_of ha
  have:=h.seen x (mem_of_getElem? hx)
  cases hact:x.act with
  | access ev=>
   rw [hact] at hxa this;simp only [MemAct.touch?,Option.some.injEq] at hxa;subst hxa
   simp only at e
   simp only [MemAct.low] at this
   rw [e] at this;exact this
  | mark m=>rw [hact] at hxa this;cases m <;> simp only [MemAct.touch?,Option.some.injEq,reduceCtorEq] at hxa <;> subst hxa <;> cases e <;> exact this
  | _=>rw [hact] at hxa;cases hxa
 refine ⟨h.clean,h.known,h.over,h.hears,h.seen,fun i a ha ⟨ad,e,hb⟩=>absurd (low i a ha ad e) (by omega),fun i hi=>?_⟩
 obtain ⟨op,ho,hoa⟩:=Option.map_eq_some_iff.1 hi
 have:=h.seen op (mem_of_getElem? ho)
 rw [hoa] at this
 simp only [MemAct.low,stA] at this
 omega
def EvP0 (Wg:Nat) (Keep:Nat → Prop) (B:Nat) (e:Event):Prop:=
 (∀ x,(MemAct.ofEvent e).touch? = some x → (OfWg Wg x.loc ∧ x.kind ≠ .plain) ∨ (KpW Keep x.loc ∧ x.kind = .plain ∧ x.write = false)) ∧ MemAct.ofEvent e ≠ .mark (.release (stA Wg)) ∧ (MemAct.ofEvent e).low B
def EvP1 (Sh:Loc → Prop) (Wg:Nat) (Keep:Nat → Prop) (B:Nat) (e:Event):Prop:=
 (∀ x,(MemAct.ofEvent e).touch? = some x → (x.kind = .plain ∧ (Ow Sh Wg Keep x.loc ∨ (KpW Keep x.loc ∧ x.write = false))) ∨ (x.kind = .atomic ∧ OfWg Wg x.loc)) ∧ MemAct.ofEvent e ≠ .mark (.release (stA Wg)) ∧ (MemAct.ofEvent e).low B
def EvB (Wg:Nat) (e:Event):Prop:=e.loc = .mark .disable ∨ e.loc = .mark .enable ∨ ∃ a wr,e = ⟨.cell a,wr,true⟩ ∧ a.block = Wg
structure Apt (Sh:Loc → Prop) (Wg:Nat) (Keep:Nat → Prop) (c:Nat):Prop where
 kw:¬ Keep Wg
 ks:∀ a:Addr,Keep a.block → ¬ Sh (.cell a)
 c0:c ≠ 0
 cells:∀ l,Sh l → ∃ a,l = .cell a
theorem Apt.kp_wg (A:Apt Sh Wg Keep c) {l:Loc} (h:KpW Keep l):¬ OfWg Wg l:=by
 rintro ⟨a,rfl,ha⟩
 obtain ⟨b,hb,hk⟩:=h
 cases hb
 exact A.kw (ha ▸ hk)
theorem Apt.kp_sh (A:Apt Sh Wg Keep c) {l:Loc} (h:KpW Keep l):¬ Sh l:=by
 obtain ⟨b,rfl,hk⟩:=h
 exact A.ks b hk
theorem ow_wg {l:Loc} (h:Ow Sh Wg Keep l):¬ OfWg Wg l:=by
 rintro ⟨a,rfl,ha⟩
 obtain ⟨b,hb,h1,_⟩:=h
 cases hb
 exact h1 ha
theorem ow_kp {l:Loc} (h:Ow Sh Wg Keep l):¬ KpW Keep l:=by
 rintro ⟨a,rfl,ha⟩
 obtain ⟨b,hb,_,h1,_⟩:=h
 cases hb
 exact h1 ha
theorem ow_sh {l:Loc} (h:Ow Sh Wg Keep l):¬ Sh l:=by
 obtain ⟨b,rfl,_,_,h1⟩:=h
 exact h1
theorem over_app {c:Nat} (h:∀ i g,T.g? i = some g → g ≠ 0 → g ≠ c → T.counts i → ∃ j,T.g? j = some 0 ∧ HappensBefore T i j) (hu:∀ op ∈ u,op.g = 0 ∨ op.g = c ∨ op.act.touch? = none) :
 ∀ i g,(T ++ u).g? i = some g → g ≠ 0 → g ≠ c → (T ++ u).counts i → ∃ j,(T ++ u).g? j = some 0 ∧ HappensBefore (T ++ u) i j:=by
 intro i g hg h0 h1 hc
 obtain ⟨x,hx,_⟩:=id hc
 obtain ⟨op,hop,hox⟩:=touch_of hx
 rcases getElem?_append_cases hop with ⟨hi,_⟩ | ⟨_,hou⟩
 ·obtain ⟨j,hj,hb⟩:=h i g (by rw [← g_old' (u:=u) hi];exact hg) h0 h1 ((counts_old hi).1 hc)
  have hjl:j < T.size:=lt_of_g? hj
  exact ⟨j,by rw [g_old' hjl];exact hj,hb_app u hb⟩
 ·have e:op.g = g:=by rw [g_new hop] at hg;exact Option.some.inj hg
  rcases hu op hou with x0 | x0 | x0
  ·exact absurd (e.symm.trans x0) h0
  ·exact absurd (e.symm.trans x0) h1
  ·rw [x0] at hox;cases hox
theorem PT.main (A:Apt Sh Wg Keep c) (h:PT Sh Wg Keep c B d0 d1 rel T) {B':Nat} (hB:B ≤ B') {fn:FuncId} {pos:String} {es:Array Event} (hes:∀ e ∈ es,EvP0 Wg Keep B' e) :
 PT Sh Wg Keep c B' (deafBehind d0 es) d1 rel (T ++ MemOp.ofEvents 0 fn pos es):=by
 have hu:∀ op ∈ MemOp.ofEvents 0 fn pos es,op.g = 0 ∧ ∃ e ∈ es,op.act = .ofEvent e:=fun op hop=>by obtain ⟨e,he,rfl⟩:=Go.Conc.mem_ofEvents hop;exact ⟨rfl,e,he,rfl⟩
 have ht:∀ op ∈ MemOp.ofEvents 0 fn pos es,∀ x,op.act.touch? = some x → (OfWg Wg x.loc ∧ x.kind ≠ .plain) ∨ (KpW Keep x.loc ∧ x.kind = .plain ∧ x.write = false):=fun op hop x hx=>by
  obtain ⟨_,e,he,ha⟩:=hu op hop;exact (hes e he).1 x (ha ▸ hx)
 refine ⟨fun said=>noRace_append (h.clean said) (fun op hop=>(hu op hop).1) fun i a ha op hop b hb hc=>?_,fun i a ha hm=>?_,fun i a ha hm ho=>?_,fun i a ha hw=>?_,
  over_app h.over fun op hop=>.inl (hu op hop).1,by rw [Deaf_own,h.deaf0],by rw [Deaf_other T (g':=0) (fun e=>A.c0 e.symm) _ (fun op hop=>(hu op hop).1),h.deaf1],
  h.norel.app fun op hop=>by obtain ⟨_,e,he,ha⟩:=hu op hop;rw [ha];exact (hes e he).2.1,
  fun op hop=>(Array.mem_append.1 hop).elim (fun x=>MemAct.low_mono hB (h.seen op x)) fun x=>by obtain ⟨_,e,he,ha⟩:=hu op x;rw [ha];exact (hes e he).2.2,
  fun e=>let ⟨r,hr⟩:=h.rel e;⟨r,hr.appOther (fun op hop=>(hu op hop).1) (fun e=>A.c0 e.symm)⟩⟩
 ·rcases ht op hop b hb with ⟨hw,hk⟩ | ⟨hp,hk,hwr⟩
  ·have:=h.wgq i a ha (hc.1 ▸ hw)
   rcases hc.2.2.2 with x | x | ⟨_,x,_⟩
   ·exact absurd x this.1
   ·exact absurd x hk
   ·obtain ⟨z,hz,hzg⟩:=Option.map_eq_some_iff.1 (this.2 x)
    have:=knows_own hz
    rwa [hzg] at this
  ·have hp':KpW Keep a.loc:=hc.1 ▸ hp
   have hwa:a.write = true:=hc.2.2.1.resolve_right (by simp [hwr])
   rcases h.known0 i a ha hc.2.1 with x | ⟨x,_⟩ | ⟨x,_⟩ | ⟨_,_,x | ⟨_,x⟩⟩
   ·exact x
   ·exact absurd x (A.kp_sh hp')
   ·exact absurd x (A.kp_wg hp')
   ·exact absurd hp' (ow_kp x)
   ·rw [hwa] at x;cases x
 ·rcases touch_new ha with ⟨ha',hl⟩ | ⟨_,op,hop,hou,_⟩
  ·rw [g_old' hl];exact (h.known0 i a ha' hm).imp (·.app _) id
  ·have:=knows_own hop
   rw [(hu op hou).1] at this
   exact .inl this
 ·rcases touch_new ha with ⟨ha',_⟩ | ⟨_,op,hop,hou,hoa⟩
  ·exact (h.known1 i a ha' hm ho).app _
  ·rcases ht op hou a hoa with ⟨hw,_⟩ | ⟨hp,_,hwr⟩
   ·rcases ho with x | ⟨x,_⟩
    ·exact absurd hw (ow_wg x)
    ·exact absurd hw (A.kp_wg x)
   ·rcases ho with x | ⟨_,x⟩
    ·exact absurd hp (ow_kp x)
    ·rw [hwr] at x;cases x
 ·rcases touch_new ha with ⟨ha',hl⟩ | ⟨_,op,hop,hou,hoa⟩
  ·rw [g_old' hl];exact h.wgq i a ha' hw
  ·rcases ht op hou a hoa with ⟨_,hk⟩ | ⟨hp,_,_⟩
   ·exact ⟨hk,fun _=>by rw [g_new hop,(hu op hou).1]⟩
   ·exact absurd hw (A.kp_wg hp)
theorem PT.work (A:Apt Sh Wg Keep c) (h:PT Sh Wg Keep c B d0 d1 False T) {B':Nat} (hB:B ≤ B') {fn:FuncId} {pos:String} {es:Array Event} (hes:∀ e ∈ es,EvP1 Sh Wg Keep B' e) :
 PT Sh Wg Keep c B' d0 (deafBehind d1 es) False (T ++ MemOp.ofEvents c fn pos es):=by
 have hu:∀ op ∈ MemOp.ofEvents c fn pos es,op.g = c ∧ ∃ e ∈ es,op.act = .ofEvent e:=fun op hop=>by obtain ⟨e,he,rfl⟩:=Go.Conc.mem_ofEvents hop;exact ⟨rfl,e,he,rfl⟩
 have ht:∀ op ∈ MemOp.ofEvents c fn pos es,∀ x,op.act.touch? = some x → (x.kind = .plain ∧ (Ow Sh Wg Keep x.loc ∨ (KpW Keep x.loc ∧ x.write = false))) ∨ (x.kind = .atomic ∧ OfWg Wg x.loc):=fun op hop x hx=>by
  obtain ⟨_,e,he,ha⟩:=hu op hop;exact (hes e he).1 x (ha ▸ hx)
 refine ⟨fun said=>noRace_append (h.clean said) (fun op hop=>(hu op hop).1) fun i a ha op hop b hb hc=>?_,fun i a ha hm=>?_,fun i a ha hm ho=>?_,fun i a ha hw=>?_,
  over_app h.over fun op hop=>.inr (.inl (hu op hop).1),by rw [Deaf_other T (g':=c) A.c0 _ (fun op hop=>(hu op hop).1),h.deaf0],by rw [Deaf_own,h.deaf1],
  h.norel.app fun op hop=>by obtain ⟨_,e,he,ha⟩:=hu op hop;rw [ha];exact (hes e he).2.1,
  fun op hop=>(Array.mem_append.1 hop).elim (fun x=>MemAct.low_mono hB (h.seen op x)) fun x=>by obtain ⟨_,e,he,ha⟩:=hu op x;rw [ha];exact (hes e he).2.2,fun e=>e.elim⟩
 ·rcases ht op hop b hb with ⟨_,hp⟩ | ⟨hk,hw⟩
  ·refine h.known1 i a ha hc.2.1 ?_
   rw [hc.1]
   exact hp.imp id fun ⟨x,y⟩=>⟨x,hc.2.2.1.resolve_right (by simp [y])⟩
  ·have:=h.wgq i a ha (hc.1 ▸ hw)
   rcases hc.2.2.2 with x | x | ⟨_,_,x⟩
   ·exact absurd x this.1
   ·rw [hk] at x;cases x
   ·rw [hk] at x;cases x
 ·rcases touch_new ha with ⟨ha',hl⟩ | ⟨_,op,hop,hou,hoa⟩
  ·rw [g_old' hl];exact (h.known0 i a ha' hm).imp (·.app _) id
  ·rcases ht op hou a hoa with ⟨hk,hp⟩ | ⟨hk,hw⟩
   ·exact .inr (.inr (.inr ⟨by rw [g_new hop,(hu op hou).1],hk,hp⟩))
   ·exact .inr (.inr (.inl ⟨hw,hk⟩))
 ·rcases touch_new ha with ⟨ha',_⟩ | ⟨_,op,hop,hou,hoa⟩
  ·exact (h.known1 i a ha' hm ho).app _
  ·have:=knows_own hop
   rwa [(hu op hou).1] at this
 ·rcases touch_new ha with ⟨ha',hl⟩ | ⟨_,op,hop,hou,hoa⟩
  ·rw [g_old' hl];exact h.wgq i a ha' hw
  ·rcases ht op hou a hoa with ⟨_,x | ⟨x,_⟩⟩ | ⟨hk,_⟩
   ·exact absurd hw (ow_wg x)
   ·exact absurd hw (A.kp_wg x)
   ·rw [hk];exact ⟨by simp,fun x=>by cases x⟩
theorem evB_touch {e:Event} (h:EvB Wg e) {x:Touch} (hx:(MemAct.ofEvent e).touch? = some x):OfWg Wg x.loc ∧ x.kind = .atomic:=by
 rcases h with h1 | h1 | ⟨a,wr,rfl,ha⟩
 ·rw [Go.ConcX.ofEvent_loc_mark h1] at hx;cases hx
 ·rw [Go.ConcX.ofEvent_loc_mark h1] at hx;cases hx
 ·rw [Go.ConcX.ofEvent_cell] at hx
  simp only [MemAct.touch?,Option.some.injEq] at hx
  subst hx
  exact ⟨⟨a,rfl,ha⟩,by simp⟩
theorem evB_norel {e:Event} (h:EvB Wg e) (a:Addr):MemAct.ofEvent e ≠ .mark (.release a):=by
 rcases h with h1 | h1 | ⟨b,wr,rfl,_⟩
 ·rw [Go.ConcX.ofEvent_loc_mark h1];simp
 ·rw [Go.ConcX.ofEvent_loc_mark h1];simp
 ·rw [Go.ConcX.ofEvent_cell];simp
theorem evB_low {e:Event} (h:EvB Wg e) (hB:Wg < B):(MemAct.ofEvent e).low B:=by
 rcases h with h1 | h1 | ⟨b,wr,rfl,hb⟩
 ·rw [Go.ConcX.ofEvent_loc_mark h1];trivial
 ·rw [Go.ConcX.ofEvent_loc_mark h1];trivial
 ·rw [Go.ConcX.ofEvent_cell];show b.block < B;omega
theorem evB_mute {e:Event} (h:e.mute = true):EvB Wg e:=Go.ConcX.bk_of_mute h
theorem PT.book (A:Apt Sh Wg Keep c) (h:PT Sh Wg Keep c B d0 d1 rel T) (hW:Wg < B) {fn:FuncId} {pos:String} {es:Array Event} (hes:∀ e ∈ es,EvB Wg e)
 (hd:∀ j e,es[j]? = some e → (MemAct.ofEvent e).touch? = none ∨ 0 < deafBehind d1 (es.extract 0 j)):PT Sh Wg Keep c B d0 (deafBehind d1 es) rel (T ++ MemOp.ofEvents c fn pos es):=by
 have hu:∀ op ∈ MemOp.ofEvents c fn pos es,op.g = c ∧ ∃ e ∈ es,op.act = .ofEvent e:=fun op hop=>by obtain ⟨e,he,rfl⟩:=Go.Conc.mem_ofEvents hop;exact ⟨rfl,e,he,rfl⟩
 have ht:∀ op ∈ MemOp.ofEvents c fn pos es,∀ x,op.act.touch? = some x → OfWg Wg x.loc ∧ x.kind = .atomic:=fun op hop x hx=>by
  obtain ⟨_,e,he,ha⟩:=hu op hop;exact evB_touch (hes e he) (ha ▸ hx)
 refine ⟨fun said=>noRace_append (h.clean said) (fun op hop=>(hu op hop).1) fun i a ha op hop b hb hc=>?_,fun i a ha hm=>?_,fun i a ha hm ho=>?_,fun i a ha hw=>?_,
  over_app h.over fun op hop=>.inr (.inl (hu op hop).1),by rw [Deaf_other T (g':=c) A.c0 _ (fun op hop=>(hu op hop).1),h.deaf0],by rw [Deaf_own,h.deaf1],
  h.norel.app fun op hop=>by obtain ⟨_,e,he,ha⟩:=hu op hop;rw [ha];exact evB_norel (hes e he) _,
  fun op hop=>(Array.mem_append.1 hop).elim (h.seen op) fun x=>by obtain ⟨_,e,he,ha⟩:=hu op x;rw [ha];exact evB_low (hes e he) hW,fun e=>?_⟩
 ·obtain ⟨hw,hk⟩:=ht op hop b hb
  have:=h.wgq i a ha (hc.1 ▸ hw)
  rcases hc.2.2.2 with x | x | ⟨_,_,x⟩
  ·exact absurd x this.1
  ·rw [hk] at x;cases x
  ·rw [hk] at x;cases x
 ·rcases touch_new ha with ⟨ha',hl⟩ | ⟨_,op,hop,hou,hoa⟩
  ·rw [g_old' hl];exact (h.known0 i a ha' hm).imp (·.app _) id
  ·exact .inr (.inr (.inl (ht op hou a hoa)))
 ·rcases touch_new ha with ⟨ha',_⟩ | ⟨_,op,hop,hou,hoa⟩
  ·exact (h.known1 i a ha' hm ho).app _
  ·have:=knows_own hop
   rwa [(hu op hou).1] at this
 ·rcases touch_new ha with ⟨ha',hl⟩ | ⟨_,op,hop,hou,hoa⟩
  ·rw [g_old' hl];exact h.wgq i a ha' hw
  ·rw [(ht op hou a hoa).2];exact ⟨by simp,fun x=>by cases x⟩
 ·obtain ⟨r,hr⟩:=h.rel e
  refine ⟨r,hr.appOwn fn pos es fun j x hx=>?_⟩
  rcases hd j x hx with h0 | h0
  ·exact .inl h0
  ·rcases hes x (Array.mem_of_getElem? hx) with h1 | h1 | ⟨a,wr,rfl,_⟩
   ·exact .inl (by rw [Go.ConcX.ofEvent_loc_mark h1];rfl)
   ·exact .inl (by rw [Go.ConcX.ofEvent_loc_mark h1];rfl)
   ·exact .inr ⟨⟨a,wr,rfl⟩,by rw [h.deaf1];exact h0⟩
theorem PT.mute1 (A:Apt Sh Wg Keep c) (h:PT Sh Wg Keep c B d0 d1 rel T) (hW:Wg < B) {fn:FuncId} {pos:String} {es:Array Event} (hes:∀ e ∈ es,e.mute = true):PT Sh Wg Keep c B d0 (deafBehind d1 es) rel (T ++ MemOp.ofEvents c fn pos es):=
 h.book A hW (fun e he=>evB_mute (hes e he)) fun j e he=>.inl (touch_mute (hes e (Array.mem_of_getElem? he)))
theorem PT.mute (A:Apt Sh Wg Keep c) (h:PT Sh Wg Keep c B d0 d1 rel T) {g:Nat} (h0:g ≠ 0) (h1:g ≠ c) {fn:FuncId} {pos:String} {es:Array Event} (hm:∀ e ∈ es,e.mute = true):PT Sh Wg Keep c B d0 d1 rel (T ++ MemOp.ofEvents g fn pos es):=by
 have hu:∀ op ∈ MemOp.ofEvents g fn pos es,op.g = g ∧ op.act.touch? = none ∧ op.act.low B ∧ op.act ≠ .mark (.release (stA Wg)):=fun op hop=>by
  obtain ⟨e,he,rfl⟩:=Go.Conc.mem_ofEvents hop
  exact ⟨rfl,touch_mute (hm e he),low_mute (hm e he) B,norel_mute (hm e he) _⟩
 refine ⟨fun said=>noRace_append (h.clean said) (fun op hop=>(hu op hop).1) fun i a _ op hop b hb _=>(by rw [(hu op hop).2.1] at hb;cases hb),fun i a ha hm'=>?_,fun i a ha hm' ho=>?_,fun i a ha hw=>?_,
  over_app h.over fun op hop=>.inr (.inr (hu op hop).2.1),(Deaf_other T h0 _ fun op hop=>(hu op hop).1).trans h.deaf0,(Deaf_other T h1 _ fun op hop=>(hu op hop).1).trans h.deaf1,
  h.norel.app fun op hop=>(hu op hop).2.2.2,fun op hop=>(Array.mem_append.1 hop).elim (h.seen op) fun x=>(hu op x).2.2.1,fun e=>let ⟨r,hr⟩:=h.rel e;⟨r,hr.appOther (fun op hop=>(hu op hop).1) h1⟩⟩
 ·rcases touch_new ha with ⟨ha',hl⟩ | ⟨_,op,_,hou,hoa⟩
  ·rw [g_old' hl];exact (h.known0 i a ha' hm').imp (·.app _) id
  ·rw [(hu op hou).2.1] at hoa;cases hoa
 ·rcases touch_new ha with ⟨ha',_⟩ | ⟨_,op,_,hou,hoa⟩
  ·exact (h.known1 i a ha' hm' ho).app _
  ·rw [(hu op hou).2.1] at hoa;cases hoa
 ·rcases touch_new ha with ⟨ha',hl⟩ | ⟨_,op,_,hou,hoa⟩
  ·rw [g_old' hl];exact h.wgq i a ha' hw
  ·rw [(hu op hou).2.1] at hoa;cases hoa
theorem PT.release (A:Apt Sh Wg Keep c) (h:PT Sh Wg Keep c B d0 0 False T) (hW:Wg < B) {fn:FuncId} {pos:String} :
 PT Sh Wg Keep c B d0 0 True (T ++ MemOp.ofEvents c fn pos #[Go.ConcX.mk (.releaseMerge (stA Wg))]):=by
 have e1:MemOp.ofEvents c fn pos #[Go.ConcX.mk (.releaseMerge (stA Wg))] = #[{ g:=c,fn,pos,act:=.mark (.releaseMerge (stA Wg)) }]:=by rw [ofEvents_eq];simp [Go.ConcX.ofEvent_mk]
 have hr:=RelBy.new (a:=stA Wg) h.deaf1 fn pos
 have e2:(#[Go.ConcX.mk (.releaseMerge (stA Wg))]:Array Event) = #[Go.ConcR.mk (.releaseMerge (stA Wg))]:=rfl
 rw [← e2] at hr
 have hu:∀ op ∈ MemOp.ofEvents c fn pos #[Go.ConcX.mk (.releaseMerge (stA Wg))],op.g = c ∧ op.act = .mark (.releaseMerge (stA Wg)):=by rw [e1];intro op hop;simp at hop;subst hop;exact ⟨rfl,rfl⟩
 have hn:∀ op ∈ MemOp.ofEvents c fn pos #[Go.ConcX.mk (.releaseMerge (stA Wg))],op.act.touch? = none:=fun op hop=>by rw [(hu op hop).2];rfl
 refine ⟨fun said=>noRace_append (h.clean said) (fun op hop=>(hu op hop).1) fun i a _ op hop b hb _=>(by rw [hn op hop] at hb;cases hb),fun i a ha hm'=>?_,fun i a ha hm' ho=>?_,fun i a ha hw=>?_,
  over_app h.over fun op hop=>.inr (.inr (hn op hop)),(Deaf_other T A.c0 _ fun op hop=>(hu op hop).1).trans h.deaf0,by rw [Deaf_own,h.deaf1];rfl,
  h.norel.app fun op hop=>by rw [(hu op hop).2];simp,fun op hop=>(Array.mem_append.1 hop).elim (h.seen op) fun x=>by rw [(hu op x).2];exact hW,fun _=>⟨_,hr⟩⟩
 ·rcases touch_new ha with ⟨ha',hl⟩ | ⟨_,op,_,hou,hoa⟩
  ·rw [g_old' hl];exact (h.known0 i a ha' hm').imp (·.app _) id
  ·rw [hn op hou] at hoa;cases hoa
 ·rcases touch_new ha with ⟨ha',_⟩ | ⟨_,op,_,hou,hoa⟩
  ·exact (h.known1 i a ha' hm' ho).app _
  ·rw [hn op hou] at hoa;cases hoa
 ·rcases touch_new ha with ⟨ha',hl⟩ | ⟨_,op,_,hou,hoa⟩
  ·rw [g_old' hl];exact h.wgq i a ha' hw
  ·rw [hn op hou] at hoa;cases hoa
theorem PT.acquire (A:Apt Sh Wg Keep c) (h:PT Sh Wg Keep c B 0 d1 True T) (hW:Wg < B) {fn:FuncId} {pos:String} :
 Past (fun l=>Sh l ∨ OfWg Wg l) B (T ++ MemOp.ofEvents 0 fn pos #[Go.ConcX.mk (.acquire (stA Wg))]):=by
 have e1:MemOp.ofEvents 0 fn pos #[Go.ConcX.mk (.acquire (stA Wg))] = #[{ g:=0,fn,pos,act:=.mark (.acquire (stA Wg)) }]:=by rw [ofEvents_eq];simp [Go.ConcX.ofEvent_mk]
 rw [e1]
 generalize hu:(#[({ g:=0,fn,pos,act:=.mark (.acquire (stA Wg)) }:MemOp)]:Trace) = u
 have hy:(T ++ u)[T.size]? = some { g:=0,fn,pos,act:=.mark (.acquire (stA Wg)) }:=by subst hu;simp
 have hu0:∀ op ∈ u,op.g = 0 ∧ op.act = .mark (.acquire (stA Wg)):=by subst hu;intro op hop;simp at hop;subst hop;exact ⟨rfl,rfl⟩
 have hn:∀ op ∈ u,op.act.touch? = none:=fun op hop=>by rw [(hu0 op hop).2];rfl
 obtain ⟨r,hr⟩:=h.rel trivial
 have hr':=hr.appOther (fun op hop=>(hu0 op hop).1) (fun e=>A.c0 e.symm)
 have hrl:r < T.size:=lt_of_act? hr.act
 have hd0:(T ++ u).deaf 0 T.size = 0:=by rw [deaf_old (Nat.le_refl _)];exact h.deaf0
 have edge:HappensBefore (T ++ u) r T.size:=.single (.inr ⟨.marked hrl (.inr hr'.act) (by rw [act?_of hy]) (fun k _ hk=>by rw [act?_old hk];exact h.norel k),hr'.heard,⟨0,by simp [Trace.g?,hy],hd0⟩⟩)
 have known:∀ i,T.g? i = some c → T.counts i → HappensBefore (T ++ u) i T.size:=fun i hg hc=>by
  have hle:i ≤ r:=Nat.le_of_not_lt fun hlt=>hr.after i hlt hg hc
  rcases Nat.lt_or_ge i r with hlt | hge
  ·exact .trans (.single (.inl ⟨hlt,c,by rw [g_old' (lt_of_g? hg)];exact hg,hr'.g⟩)) edge
  ·obtain rfl:i = r:=by omega
   exact edge
 refine ⟨fun said=>noRace_append (h.clean said) (fun op hop=>(hu0 op hop).1) fun i a _ op hop b hb _=>(by rw [hn op hop] at hb;cases hb),fun i a ha hm=>?_,fun i g hg hne hc=>?_,?_,fun op hop=>(Array.mem_append.1 hop).elim (h.seen op) fun x=>by rw [(hu0 op x).2];exact hW⟩
 ·rcases touch_new ha with ⟨ha',hl⟩ | ⟨_,op,_,hou,hoa⟩
  ·rcases h.known0 i a ha' hm with x | ⟨x,y⟩ | ⟨x,y⟩ | ⟨x,y,_⟩
   ·exact .inl (x.app _)
   ·exact .inr ⟨.inl x,y⟩
   ·exact .inr ⟨.inr x,y⟩
   ·exact .inl ⟨T.size,_,hy,rfl,.inr (known i x ⟨a,ha',hm,.inl (by rw [y];simp)⟩)⟩
  ·rw [hn op hou] at hoa;cases hoa
 ·obtain ⟨x,hx,_⟩:=id hc
  obtain ⟨op,hop,hox⟩:=touch_of hx
  rcases getElem?_append_cases hop with ⟨hi,_⟩ | ⟨_,hou⟩
  ·have hg':T.g? i = some g:=by rw [← g_old' (u:=u) hi];exact hg
   by_cases hgc:g = c
   ·subst hgc
    exact ⟨T.size,by simp [Trace.g?,hy],known i hg' ((counts_old hi).1 hc)⟩
   ·obtain ⟨j,hj,hb⟩:=h.over i g hg' hne hgc ((counts_old hi).1 hc)
    exact ⟨j,by rw [g_old' (lt_of_g? hj)];exact hj,hb_app u hb⟩
  ·rw [hn op hou] at hox;cases hox
 ·rw [← hu,Deaf_push,h.deaf0];rfl
theorem LT.fork (A:Apt Sh Wg Keep c) (h:LT Sh Wg B 0 T) (hc:Deaf T c = 0) {x y:MemOp} (hx:x.g = 0 ∧ x.act = .go c) (hy:y.g = c ∧ y.act = .start) :
 PT Sh Wg Keep c B 0 0 False (T ++ #[x,y]):=by
 have hnt:∀ op ∈ #[x,y],op.act.touch? = none ∧ (∀ B,op.act.low B) ∧ ∀ a,op.act ≠ .mark (.release a):=by
  intro op hop
  simp only [List.mem_toArray,List.mem_cons,List.not_mem_nil,or_false] at hop
  rcases hop with rfl | rfl
  ·rw [hx.2];exact ⟨rfl,fun _=>trivial,fun _=>by simp⟩
  ·rw [hy.2];exact ⟨rfl,fun _=>trivial,fun _=>by simp⟩
 have old:∀ {i:Nat} {a:Touch},touchAt (T ++ #[x,y]) i = some a → touchAt T i = some a ∧ i < T.size:=by
  intro i a ha
  rcases touch_new ha with z | ⟨_,op,_,hou,hoa⟩
  ·exact z
  ·rw [(hnt op hou).1] at hoa;cases hoa
 have e:T ++ #[x,y] = (T ++ #[x]) ++ #[y]:=by apply Array.ext';simp
 refine ⟨fun said=>?_,fun i a ha hm=>?_,fun i a ha hm ho=>?_,fun i a ha hw=>?_,over_app (fun i g a b _ d=>h.over i g a b d) fun op hop=>.inr (.inr (hnt op hop).1),?_,?_,h.norel.app fun op hop=>(hnt op hop).2.2 _,
  fun op hop=>(Array.mem_append.1 hop).elim (h.seen op) fun z=>(hnt op z).2.1 _,fun e=>e.elim⟩
 ·rw [e]
  refine noRace_append (g:=c) (noRace_append (g:=0) (h.clean said) (fun op hop=>by simp at hop;rw [hop];exact hx.1) (fun i a _ op hop b hb _=>?_)) (fun op hop=>by simp at hop;rw [hop];exact hy.1) (fun i a _ op hop b hb _=>?_)
  ·simp at hop;subst hop;rw [hx.2] at hb;cases hb
  ·simp at hop;subst hop;rw [hy.2] at hb;cases hb
 ·obtain ⟨ha',hl⟩:=old ha
  exact (h.known i a ha' hm).elim (fun z=>.inl (z.app _)) fun z=>.inr (.inl z)
 ·obtain ⟨ha',hl⟩:=old ha
  have hsh:¬ Sh a.loc:=ho.elim ow_sh fun z=>A.kp_sh z.1
  exact fork_knows hx hy h.deaf hc ((h.known i a ha' hm).resolve_right fun z=>hsh z.1)
 ·obtain ⟨ha',hl⟩:=old ha
  rw [g_old' hl];exact h.wgq i a ha' hw
 ·rw [e,Deaf_push,Deaf_push,h.deaf];simp [deafStep,hx.2,hy.2]
 ·rw [e,Deaf_push,Deaf_push,hc];simp [deafStep,hx.2,hy.2]
end
end
section
open Conc
open Go.ConcX (stA smA OfWg WgAt KK Payload Shy rd wr mk AtR0 AtK1 AtD1 AtD2 AtD3 AtD4 RCa RCd KCa DC0)
open Go.ConcN (sumTo upd sumTo_upd upd_ne upd_same)
structure LB (P:Program) (X:Nat → Prop) (T:Trace) (gs:Array Goroutine) (q:Nat → Nat):Prop where
 old:∀ i g,0 < i → ¬ X i → gs[i]? = some g → QuitsD P (q i) (Deaf T i) g
 above:∀ j,gs.size ≤ j → Deaf T j = 0
section
variable {P:Program} {X:Nat → Prop} {T:Trace} {gs:Array Goroutine} {q:Nat → Nat}
theorem LB.of (h:Leavers P T gs q):LB P (fun _=>False) T gs q:=⟨fun i g h0 _ hg=>h.old i g h0 hg,h.above⟩
theorem LB.to (h:LB P (fun _=>False) T gs q):Leavers P T gs q:=⟨fun i g h0 hg=>h.old i g h0 id hg,h.above⟩
theorem ofEvents_g {g:Nat} {fn:FuncId} {pos:String} {es:Array Event}:∀ op ∈ MemOp.ofEvents g fn pos es,op.g = g:=fun op hop=>by obtain ⟨e,_,rfl⟩:=Go.Conc.mem_ofEvents hop;rfl
theorem get_set_same {k:Nat} {a x:Goroutine} {f:Goroutine → Goroutine} (h:gs[k]? = some a):((gs.map f).setIfInBounds k x)[k]? = some x:=by
 have:=(Array.getElem?_eq_some_iff.1 h).1
 simp [this]
theorem get_set_other {k j:Nat} {x:Goroutine} {f:Goroutine → Goroutine} (hne:k ≠ j):((gs.map f).setIfInBounds k x)[j]? = (gs[j]?).map f:=by
 rw [Array.getElem?_setIfInBounds_ne hne,Array.getElem?_map]
theorem LB.own (h:LB P X T gs q) {k:Nat} (hk:k = 0 ∨ X k) (hl:k < gs.size) {a a':Goroutine} {w':World} (fn:FuncId) (pos:String) (es:Array Event) :
 LB P X (T ++ MemOp.ofEvents k fn pos es) ((gs.map (woken P a a' w')).setIfInBounds k a') q:=by
 refine ⟨fun i g h0 hx hg=>?_,fun j hj=>?_⟩
 ·have hne:k ≠ i:=fun e=>by subst e;exact hk.elim (fun e=>by omega) hx
  rw [get_set_other hne] at hg
  obtain ⟨y,hy,rfl⟩:=Option.map_eq_some_iff.1 hg
  have hq:=h.old i y h0 hx hy
  rw [woken_quitsD hq,Deaf_other T (g':=k) hne _ ofEvents_g]
  exact hq
 ·have hj':gs.size ≤ j:=by simpa using hj
  rw [Deaf_other T (g':=k) (by omega) _ ofEvents_g]
  exact h.above j hj'
theorem LB.slip (h:LB P X T gs q) {i:Nat} (h0:0 < i) (hx:¬ X i) {g:Goroutine} (hg:gs[i]? = some g) (hr:g.status = .running) :
 ∃ g' es k,(∀ e ∈ es,Event.mute e = true) ∧ (∀ w,stepG P false g w = .go g' w es) ∧ q i = k + 1 ∧
  ∀ w fn pos,LB P X (T ++ MemOp.ofEvents i fn pos es) ((gs.map (woken P g g' w)).setIfInBounds i g') (upd q i k):=by
 have hq:=h.old i g h0 hx hg
 have hlt:=(Array.getElem?_eq_some_iff.1 hg).1
 cases hqi:q i with
 | zero=>rw [hqi] at hq;rw [hq.1] at hr;cases hr
 | succ k=>
  rw [hqi] at hq
  rcases hq with ⟨hf,_⟩ | ⟨_,g',es,hm,hst,hq'⟩
  ·rw [hf] at hr;cases hr
  refine ⟨g',es,k,hm,hst,rfl,fun w fn pos=>⟨fun j y hj hy hyg=>?_,fun j hj=>?_⟩⟩
  ·by_cases hji:i = j
   ·subst hji
    rw [get_set_same hg] at hyg
    obtain rfl:=Option.some.inj hyg
    rw [upd_same,Deaf_own]
    exact hq'
   ·rw [get_set_other hji] at hyg
    obtain ⟨z,hz,rfl⟩:=Option.map_eq_some_iff.1 hyg
    have hqj:=h.old j z hj hy hz
    rw [woken_quitsD hqj,upd_ne q k (Ne.symm hji),Deaf_other T hji _ ofEvents_g]
    exact hqj
  ·have hj':gs.size ≤ j:=by simpa using hj
   rw [Deaf_other T (g':=i) (by omega) _ ofEvents_g]
   exact h.above j hj'
theorem sum_slip {n i k:Nat} (hi:i < n) (hq:q i = k + 1):sumTo n (upd q i k) < sumTo n q:=by
 have:=sumTo_upd q k id hi
 simp only [id,hq] at this
 have e1:(sumTo n fun a=>upd q i k a) = sumTo n (upd q i k):=rfl
 have e2:(sumTo n fun a=>q a) = sumTo n q:=rfl
 omega
end
section
variable (P:Program) (ty:TypeId) (Sh:Loc → Prop) (Wg:Nat) (Keep:Nat → Prop) (Pay:World → Prop) (Next Anch:Goroutine → World → Prop)
def Live (w:World):Prop:=∃ st sm,WgAt ty Wg w st sm
structure RM (w w₁:World):Prop where
 os:w₁.os = w.os
 tape:w₁.tape = w.tape
 output:w₁.output = w.output
 size:w.heap.size ≤ w₁.heap.size
 keep:∀ b,Keep b → w₁.heap[b]? = w.heap[b]?
 live:Live ty Wg w → Live ty Wg w₁
def DM (w w':World) (es:Array Event):Prop:=(∃ d,w' = w.at d) ∧ ∀ e ∈ es,EvP0 Wg Keep w.heap.size e ∧ e.loc ≠ .mark .disable ∧ e.loc ≠ .mark .enable
structure RK (w w₁:World):Prop where
 os:w₁.os = w.os
 tape:w₁.tape = w.tape
 output:w₁.output = w.output
 size:w₁.heap.size = w.heap.size
 block:∀ b,b ≠ Wg → w₁.heap[b]? = w.heap[b]?
 k:KCa ty Wg w → KCa ty Wg w₁
structure DK (w w':World) (es:Array Event):Prop where
 os:w'.os = w.os
 tape:w'.tape = w.tape
 output:w'.output = w.output
 size:w.heap.size ≤ w'.heap.size
 wg:w'.heap[Wg]? = w.heap[Wg]?
 keep:∀ b,Keep b → w'.heap[b]? = w.heap[b]?
 evs:∀ e ∈ es,EvP1 Sh Wg Keep w'.heap.size e ∧ e.loc ≠ .mark .disable ∧ e.loc ≠ .mark .enable
abbrev WM (Stop:Stops):Goroutine → World → Prop:=Way P true (RM ty Wg Keep) (DM Wg Keep) Stop
abbrev WMT (Stop:Stops) (t:WTr):Goroutine → World → Prop:=WayT P true (RM ty Wg Keep) (DM Wg Keep) Stop t
def MAcq (g:Goroutine) (w:World):Prop:=g.status = .running ∧ ∃ g',stepG P true g w = .go g' w #[mk (.acquire (stA Wg))] ∧ (Pay w → Next g' w)
def MKe (g:Goroutine) (w:World):Prop:=g.status = .running ∧ ∃ g',stepG P true g w = .go g' w #[mk .enable] ∧ WM P ty Wg Keep (MAcq P Wg Pay Next) g' w
def MW4 (g:Goroutine) (w:World):Prop:=g.status = .running ∧ (WgAt ty Wg w 0 0 → ∃ g',stepG P true g w = .go g' w #[rd (stA Wg)] ∧ WM P ty Wg Keep (MKe P ty Wg Keep Pay Next) g' w)
def MW3 (g:Goroutine) (w:World):Prop:=
 g.status = .running ∧ g.offers = none ∧ ((∃ st,WgAt ty Wg w st 0) → stepG P true g w = .go { g with status:=.blocked } w #[]) ∧
  (WgAt ty Wg w 0 1 → ∃ g',stepG P true g w = .go g' (w.setCell (smA Wg) (.int .u32 0)) (semEvents (smA Wg)) ∧ WM P ty Wg Keep (MW4 P ty Wg Keep Pay Next) g' (w.setCell (smA Wg) (.int .u32 0)))
def MW2 (g:Goroutine) (w:World):Prop:=
 g.status = .running ∧
  (WgAt ty Wg w KK 0 → ∃ g',stepG P true g w = .go g' (w.setCell (stA Wg) (.int .u64 (KK + 1))) #[rd (stA Wg),wr (stA Wg)] ∧ WM P ty Wg Keep (MW3 P ty Wg Keep Pay Next) g' (w.setCell (stA Wg) (.int .u64 (KK + 1)))) ∧
  (WgAt ty Wg w 0 0 → ∃ g',stepG P true g w = .go g' w #[rd (stA Wg)] ∧ WM P ty Wg Keep Anch g' w)
def MW1 (g:Goroutine) (w:World):Prop:=
 g.status = .running ∧
  (WgAt ty Wg w KK 0 → ∃ g',stepG P true g w = .go g' w #[rd (stA Wg)] ∧ WM P ty Wg Keep (MW2 P ty Wg Keep Pay Next Anch) g' w) ∧
  (WgAt ty Wg w 0 0 → ∃ g',stepG P true g w = .go g' w #[rd (stA Wg)] ∧ WM P ty Wg Keep (MKe P ty Wg Keep Pay Next) g' w)
def MKd (g:Goroutine) (w:World):Prop:=g.status = .running ∧ ∃ g',stepG P true g w = .go g' w #[mk .disable] ∧ WM P ty Wg Keep Anch g' w
inductive Ma:Nat → WTr → Nat → Goroutine → World → Prop
 | kd {t:WTr} {g:Goroutine} {w:World}:WMT P ty Wg Keep (MKd P ty Wg Keep Anch) t g w → Ma 4 t 0 g w
 | anch {t:WTr} {g:Goroutine} {w:World}:WMT P ty Wg Keep Anch t g w → Ma 3 t 1 g w
 | w1 {t:WTr} {g:Goroutine} {w:World}:WMT P ty Wg Keep (MW1 P ty Wg Keep Pay Next Anch) t g w → Ma 2 t 1 g w
 | w2 {t:WTr} {g:Goroutine} {w:World}:WMT P ty Wg Keep (MW2 P ty Wg Keep Pay Next Anch) t g w → Ma 1 t 1 g w
inductive Mb:WTr → Nat → Goroutine → World → Prop
 | w3 {t:WTr} {g:Goroutine} {w:World}:WMT P ty Wg Keep (MW3 P ty Wg Keep Pay Next) t g w → Mb t 1 g w
 | blk {g:Goroutine} {w:World}:(∀ w₁,RM ty Wg Keep w w₁ → MW3 P ty Wg Keep Pay Next g w₁) → Mb .leaf 0 { g with status:=.blocked } w
inductive Mj:Nat → WTr → Nat → Goroutine → World → Prop
 | w4 {t:WTr} {g:Goroutine} {w:World}:WMT P ty Wg Keep (MW4 P ty Wg Keep Pay Next) t g w → Mj 7 t 1 g w
 | ke {t:WTr} {g:Goroutine} {w:World}:WMT P ty Wg Keep (MKe P ty Wg Keep Pay Next) t g w → Mj 6 t 1 g w
 | acq {t:WTr} {g:Goroutine} {w:World}:WMT P ty Wg Keep (MAcq P Wg Pay Next) t g w → Mj 5 t 0 g w
end
section
variable (P:Program) (ty:TypeId) (Sh:Loc → Prop) (Wg:Nat) (Keep:Nat → Prop) (Pay:World → Prop) (Low:Nat)
def KR0 (g:Goroutine) (w:World):Prop:=g.status = .running ∧ Pay w ∧ ∃ g',stepG P false g w = .go g' w #[mk (.releaseMerge (stA Wg))] ∧ ∃ m,Goes P false (RCa ty Wg Low) DC0 (AtK1 P ty Wg Low) m g' w
inductive Wk:Nat → WTr → Nat → Goroutine → World → Prop
 | r0 {t:WTr} {g:Goroutine} {w:World}:WayT P false (RK ty Wg) (DK Sh Wg Keep) (KR0 P ty Wg Pay Low) t g w → Wk 7 t 0 g w
 | k1 {t:WTr} {g:Goroutine} {w:World}:WayT P false (RCa ty Wg Low) DC0 (AtK1 P ty Wg Low) t g w → Wk 6 t 0 g w
 | d1 {t:WTr} {g:Goroutine} {w:World}:WayT P false (RCa ty Wg Low) DC0 (AtD1 P ty Wg Low) t g w → Wk 5 t 1 g w
inductive Wd:Nat → WTr → Int → Goroutine → World → Prop
 | d2 {t:WTr} {g:Goroutine} {w:World}:WayT P false (RCd Low) DC0 (AtD2 P Wg Low) t g w → Wd 4 t 1 g w
 | d3 {t:WTr} {g:Goroutine} {w:World}:WayT P false (RCd Low) DC0 (AtD3 P Wg Low) t g w → Wd 3 t 1 g w
 | d4 {t:WTr} {g:Goroutine} {w:World}:WayT P false (RCd Low) DC0 (AtD4 P Wg) t g w → Wd 2 t 0 g w
end
section
variable {P:Program} {ty:TypeId} {Sh:Loc → Prop} {Wg:Nat} {Keep:Nat → Prop} {Pay:World → Prop} {Next Anch:Goroutine → World → Prop} {Low:Nat} {w w₁ w₂:World}
theorem RM.refl (w:World):RM ty Wg Keep w w:=⟨rfl,rfl,rfl,Nat.le_refl _,fun _ _=>rfl,id⟩
theorem RM.trans (h:RM ty Wg Keep w w₁) (k:RM ty Wg Keep w₁ w₂):RM ty Wg Keep w w₂:=⟨k.os.trans h.os,k.tape.trans h.tape,k.output.trans h.output,Nat.le_trans h.size k.size,fun b hb=>(k.keep b hb).trans (h.keep b hb),k.live ∘ h.live⟩
theorem RM.at (w:World) (d:Nat):RM ty Wg Keep w (w.at d):=⟨rfl,rfl,rfl,Nat.le_refl _,fun _ _=>rfl,id⟩
theorem RM.tr:∀ a b c,RM ty Wg Keep a b → RM ty Wg Keep b c → RM ty Wg Keep a c:=fun _ _ _ h k=>h.trans k
theorem RK.refl (w:World):RK ty Wg w w:=⟨rfl,rfl,rfl,rfl,fun _ _=>rfl,id⟩
theorem RK.trans (h:RK ty Wg w w₁) (k:RK ty Wg w₁ w₂):RK ty Wg w w₂:=⟨k.os.trans h.os,k.tape.trans h.tape,k.output.trans h.output,k.size.trans h.size,fun b hb=>(k.block b hb).trans (h.block b hb),k.k ∘ h.k⟩
theorem RK.at (w:World) (d:Nat):RK ty Wg w (w.at d):=⟨rfl,rfl,rfl,rfl,fun _ _=>rfl,id⟩
theorem RK.tr:∀ a b c,RK ty Wg a b → RK ty Wg b c → RK ty Wg a c:=fun _ _ _ h k=>h.trans k
theorem RCa.tr:∀ a b c,RCa ty Wg Low a b → RCa ty Wg Low b c → RCa ty Wg Low a c:=fun _ _ _ h k=>h.trans k
theorem RCd.tr:∀ a b c,RCd Low a b → RCd Low b c → RCd Low a c:=fun _ _ _ h k=>h.trans k
theorem RK.ca (h:RK ty Wg w w₁):RCa ty Wg Low w w₁:=⟨fun b _ hb=>h.block b hb,h.k⟩
theorem RM.of_wg (A:¬ Keep Wg) (h:Aside Wg w w₁) (hl:Live ty Wg w₁):RM ty Wg Keep w w₁:=
 ⟨h.os,h.tape,h.output,Nat.le_of_eq h.size.symm,fun b hb=>h.block b fun e=>A (e ▸ hb),fun _=>hl⟩
theorem RM.of_work {es:Array Event} (h:DK Sh Wg Keep w w₁ es):RM ty Wg Keep w w₁:=
 ⟨h.os,h.tape,h.output,h.size,h.keep,fun ⟨st,sm,hl⟩=>⟨st,sm,hl.of_block h.wg⟩⟩
theorem RK.of_wg (h:Aside Wg w w₁) (hl:KCa ty Wg w₁):RK ty Wg w w₁:=⟨h.os,h.tape,h.output,h.size,h.block,fun _=>hl⟩
theorem Ma.rely {r d:Nat} {t:WTr} {g:Goroutine} (h:Ma P ty Wg Keep Pay Next Anch r t d g w) (hr:RM ty Wg Keep w w₁):Ma P ty Wg Keep Pay Next Anch r t d g w₁:=by
 cases h with
 | kd h=>exact .kd (h.rely RM.tr hr)
 | anch h=>exact .anch (h.rely RM.tr hr)
 | w1 h=>exact .w1 (h.rely RM.tr hr)
 | w2 h=>exact .w2 (h.rely RM.tr hr)
theorem Mb.rely {k:Nat} {t:WTr} {g:Goroutine} (h:Mb P ty Wg Keep Pay Next t k g w) (hr:RM ty Wg Keep w w₁):Mb P ty Wg Keep Pay Next t k g w₁:=by
 cases h with
 | w3 h=>exact .w3 (h.rely RM.tr hr)
 | blk h=>exact .blk fun w₂ h₂=>h w₂ (hr.trans h₂)
theorem Mj.rely {r d:Nat} {t:WTr} {g:Goroutine} (h:Mj P ty Wg Keep Pay Next r t d g w) (hr:RM ty Wg Keep w w₁):Mj P ty Wg Keep Pay Next r t d g w₁:=by
 cases h with
 | w4 h=>exact .w4 (h.rely RM.tr hr)
 | ke h=>exact .ke (h.rely RM.tr hr)
 | acq h=>exact .acq (h.rely RM.tr hr)
theorem Wk.rely {s d:Nat} {t:WTr} {g:Goroutine} (h:Wk P ty Sh Wg Keep Pay Low s t d g w) (hr:RK ty Wg w w₁):Wk P ty Sh Wg Keep Pay Low s t d g w₁:=by
 cases h with
 | r0 h=>exact .r0 (h.rely RK.tr hr)
 | k1 h=>exact .k1 (h.rely RCa.tr hr.ca)
 | d1 h=>exact .d1 (h.rely RCa.tr hr.ca)
theorem Wd.rely {s:Nat} {t:WTr} {st:Int} {g:Goroutine} (h:Wd P Wg Low s t st g w) (hr:RCd Low w w₁):Wd P Wg Low s t st g w₁:=by
 cases h with
 | d2 h=>exact .d2 (h.rely RCd.tr hr)
 | d3 h=>exact .d3 (h.rely RCd.tr hr)
 | d4 h=>exact .d4 (h.rely RCd.tr hr)
theorem Ma.running (hAr:∀ g w,Anch g w → g.status = .running) {r d:Nat} {t:WTr} {g:Goroutine} (h:Ma P ty Wg Keep Pay Next Anch r t d g w):g.status = .running:=by
 cases h with
 | kd h=>exact h.status RM.refl (fun _ _ x=>x.1)
 | anch h=>exact h.status RM.refl hAr
 | w1 h=>exact h.status RM.refl (fun _ _ x=>x.1)
 | w2 h=>exact h.status RM.refl (fun _ _ x=>x.1)
theorem Mj.running {r d:Nat} {t:WTr} {g:Goroutine} (h:Mj P ty Wg Keep Pay Next r t d g w):g.status = .running:=by
 cases h with
 | w4 h=>exact h.status RM.refl (fun _ _ x=>x.1)
 | ke h=>exact h.status RM.refl (fun _ _ x=>x.1)
 | acq h=>exact h.status RM.refl (fun _ _ x=>x.1)
theorem Mb.status {k:Nat} {t:WTr} {g:Goroutine} (h:Mb P ty Wg Keep Pay Next t k g w):(k = 1 ∧ g.status = .running) ∨ (k = 0 ∧ g.status = .blocked):=by
 cases h with
 | w3 h=>exact .inl ⟨rfl,h.status RM.refl (fun _ _ x=>x.1)⟩
 | blk h=>exact .inr ⟨rfl,rfl⟩
theorem Wk.running {s d:Nat} {t:WTr} {g:Goroutine} (h:Wk P ty Sh Wg Keep Pay Low s t d g w):g.status = .running:=by
 cases h with
 | r0 h=>exact h.status RK.refl (fun _ _ x=>x.1)
 | k1 h=>exact h.status RCa.refl (fun _ _ x=>x.1)
 | d1 h=>exact h.status RCa.refl (fun _ _ x=>x.1)
theorem Wd.running {s:Nat} {t:WTr} {st:Int} {g:Goroutine} (h:Wd P Wg Low s t st g w):g.status = .running:=by
 cases h with
 | d2 h=>exact h.status RCd.refl (fun _ _ x=>x.1)
 | d3 h=>exact h.status RCd.refl (fun _ _ x=>x.1)
 | d4 h=>exact h.status RCd.refl (fun _ _ x=>x.1)
theorem Mb.woken {k:Nat} {t:WTr} {g:Goroutine} (h:Mb P ty Wg Keep Pay Next t k g w) (b b':Goroutine) (w':World):∃ t' k',Mb P ty Wg Keep Pay Next t' k' (woken P b b' w' g) w:=by
 cases h with
 | w3 h=>
  rw [woken_run (h.status RM.refl (fun _ _ x=>x.1))]
  exact ⟨_,_,.w3 h⟩
 | @blk g w h=>
  unfold Conc.woken
  split
  ·have h0:=h w (RM.refl w)
   rw [Go.ConcX.again_blocked h0.1 h0.2.1]
   exact ⟨.leaf,_,.w3 h⟩
  ·exact ⟨_,_,.blk h⟩
theorem Mb.again {k:Nat} {t:WTr} {g:Goroutine} (h:Mb P ty Wg Keep Pay Next t k g w) (w':World):∃ t',Mb P ty Wg Keep Pay Next t' 1 (g.again w') w:=by
 cases h with
 | w3 h=>
  have hr:=h.status RM.refl (fun _ _ x=>x.1)
  rw [again_running _ (.inl hr)]
  exact ⟨_,.w3 h⟩
 | @blk g w h=>
  have h0:=h w (RM.refl w)
  rw [Go.ConcX.again_blocked h0.1 h0.2.1]
  exact ⟨.leaf,.w3 h⟩
end
end
section
open Conc
open Go.ConcX (stA smA OfWg WgAt KK rd wr mk AtK1 AtD1 AtD2 AtD3 AtD4 RCa RCd KCa DC0 WgAt.setSt WgAt.setSm WgAt.of_block)
open Go.ConcN (sumTo upd sumTo_upd upd_ne upd_same)
section
variable (P:Program) (ty:TypeId) (Sh:Loc → Prop) (Wg:Nat) (Keep:Nat → Prop) (Pay:World → Prop) (Next Anch:Goroutine → World → Prop) (Low c:Nat)
def rkC (r:Nat):Nat:=if r = 1 then 14 else 10 + r
inductive Sit:Nat → WTr → WTr → Nat → Nat → Goroutine → Goroutine → World → Trace → Prop
 | a {s r d0 d1:Nat} {t1 t0:WTr} {a b:Goroutine} {w:World} {T:Trace}:Wk P ty Sh Wg Keep Pay Low s t1 d1 b w → Ma P ty Wg Keep Pay Next Anch r t0 d0 a w → WgAt ty Wg w KK 0 →
  PT Sh Wg Keep c w.heap.size d0 d1 (s ≤ 6) T → (s ≤ 6 → Pay w) → Sit (20 * s + (10 + r)) t1 t0 1 0 a b w T
 | b {s d1 k:Nat} {t1 t0:WTr} {a b:Goroutine} {w:World} {T:Trace}:Wk P ty Sh Wg Keep Pay Low s t1 d1 b w → Mb P ty Wg Keep Pay Next t0 k a w → WgAt ty Wg w (KK + 1) 0 →
  PT Sh Wg Keep c w.heap.size 1 d1 (s ≤ 6) T → (s ≤ 6 → Pay w) → Sit (20 * s + 8) t1 t0 k 0 a b w T
 | c {q r d0 d1:Nat} {t0:WTr} {a b:Goroutine} {w:World} {T:Trace}:QuitsD P q d1 b → Ma P ty Wg Keep Pay Next Anch r t0 d0 a w → WgAt ty Wg w 0 0 →
  PT Sh Wg Keep c w.heap.size d0 d1 True T → Pay w → Sit (20 + rkC r) .leaf t0 1 q a b w T
 | d {s k:Nat} {st:Int} {t1 t0:WTr} {a b:Goroutine} {w:World} {T:Trace}:Wd P Wg Low s t1 st b w → Mb P ty Wg Keep Pay Next t0 k a w → WgAt ty Wg w st 0 →
  PT Sh Wg Keep c w.heap.size 1 1 True T → Pay w → Sit (20 * s + 8) t1 t0 k 0 a b w T
 | f {q d1:Nat} {t0:WTr} {a b:Goroutine} {w:World} {T:Trace}:QuitsD P q d1 b → Mb P ty Wg Keep Pay Next t0 1 a w → WgAt ty Wg w 0 1 →
  PT Sh Wg Keep c w.heap.size 1 d1 True T → Pay w → Sit 28 .leaf t0 1 q a b w T
 | j {q r d0 d1:Nat} {t0:WTr} {a b:Goroutine} {w:World} {T:Trace}:QuitsD P q d1 b → Mj P ty Wg Keep Pay Next r t0 d0 a w → WgAt ty Wg w 0 0 →
  PT Sh Wg Keep c w.heap.size d0 d1 True T → Pay w → Sit (20 + r) .leaf t0 1 q a b w T
def LessM (S':Nat) (t0':WTr) (k' S:Nat) (t0:WTr) (k:Nat):Prop:=S' < S ∨ (S' = S ∧ (WTr.Below t0' t0 ∨ (t0' = t0 ∧ k' < k)))
def LessW (S' q':Nat) (t1':WTr) (S q:Nat) (t1:WTr):Prop:=S' < S ∨ (S' = S ∧ q' < q) ∨ (S' = S ∧ q' = q ∧ WTr.Below t1' t1)
def MOut (S:Nat) (t1 t0:WTr) (k q:Nat) (a b:Goroutine) (w:World) (T:Trace):Prop:=
 ∃ a' w' es,stepG P true a w = .go a' w' es ∧ w.heap.size ≤ w'.heap.size ∧
  ((∃ S' t0' k',Sit P ty Sh Wg Keep Pay Next Anch Low c S' t1 t0' k' q a' b w' (T ++ MemOp.ofEvents 0 a.frame.fn a.frame.place es) ∧ LessM S' t0' k' S t0 k) ∨
   (es = #[mk (.acquire (stA Wg))] ∧ w' = w ∧ Next a' w ∧ Pay w ∧ ∃ d1,QuitsD P q d1 b ∧ PT Sh Wg Keep c w.heap.size 0 d1 True T))
def WOut (S:Nat) (t1:WTr) (q:Nat) (a b:Goroutine) (w:World) (T:Trace):Prop:=
 ∃ b' w' es,stepG P false b w = .go b' w' es ∧ w.heap.size ≤ w'.heap.size ∧
  ∃ S' t1' t0' k' q',Sit P ty Sh Wg Keep Pay Next Anch Low c S' t1' t0' k' q' (woken P b b' w' a) b' w' (T ++ MemOp.ofEvents c b.frame.fn b.frame.place es) ∧ LessW S' q' t1' S q t1
end
section
variable {P:Program} {ty:TypeId} {Sh:Loc → Prop} {Wg:Nat} {Keep:Nat → Prop} {Pay:World → Prop} {Next Anch:Goroutine → World → Prop} {Low c:Nat}
variable {S k q:Nat} {t1 t0:WTr} {a b:Goroutine} {w:World} {T:Trace} {d0 d1:Nat} {rel:Prop}
theorem wg_lt {st sm:Int} (h:WgAt ty Wg w st sm):Wg < w.heap.size:=(Array.getElem?_eq_some_iff.1 h).1
theorem p0_book {B:Nat} (hW:Wg < B) {e:Event} (h:EvB Wg e):EvP0 Wg Keep B e:=
 ⟨fun x hx=>.inl ⟨(evB_touch h hx).1,by rw [(evB_touch h hx).2];simp⟩,evB_norel h _,evB_low h hW⟩
theorem b_cell (a:Addr) (x:Bool) (h:a.block = Wg):EvB Wg ⟨.cell a,x,true⟩:=.inr (.inr ⟨a,x,rfl,h⟩)
theorem b_rd:∀ e ∈ #[rd (stA Wg)],EvB Wg e:=by intro e he;simp at he;subst he;exact b_cell _ _ rfl
theorem b_wr:∀ e ∈ #[wr (stA Wg)],EvB Wg e:=by intro e he;simp at he;subst he;exact b_cell _ _ rfl
theorem b_rw:∀ e ∈ #[rd (stA Wg),wr (stA Wg)],EvB Wg e:=by intro e he;simp at he;rcases he with rfl | rfl <;> exact b_cell _ _ rfl
theorem b_dis:∀ e ∈ #[mk .disable],EvB Wg e:=by intro e he;simp at he;subst he;exact .inl rfl
theorem b_ena:∀ e ∈ #[mk .enable],EvB Wg e:=by intro e he;simp at he;subst he;exact .inr (.inl rfl)
theorem b_sem:∀ e ∈ semEvents (smA Wg),EvB Wg e:=by
 intro e he;simp [semEvents] at he;rcases he with rfl | rfl | rfl | rfl
 ·exact .inl rfl
 ·exact b_cell _ _ rfl
 ·exact b_cell _ _ rfl
 ·exact .inr (.inl rfl)
theorem PT.mainBook (A:Apt Sh Wg Keep c) (h:PT Sh Wg Keep c w.heap.size d0 d1 rel T) (hW:Wg < w.heap.size) {w':World} (hs:w'.heap.size = w.heap.size) {es:Array Event} (hes:∀ e ∈ es,EvB Wg e) (fn:FuncId) (pos:String) :
 PT Sh Wg Keep c w'.heap.size (deafBehind d0 es) d1 rel (T ++ MemOp.ofEvents 0 fn pos es):=by
 rw [hs];exact h.main A (Nat.le_refl _) fun e he=>p0_book hW (hes e he)
theorem PT.mainIdle (A:Apt Sh Wg Keep c) (h:PT Sh Wg Keep c w.heap.size d0 d1 rel T) {w':World} {es:Array Event} (hD:DM Wg Keep w w' es) (fn:FuncId) (pos:String) :
 PT Sh Wg Keep c w'.heap.size d0 d1 rel (T ++ MemOp.ofEvents 0 fn pos es):=by
 obtain ⟨⟨d,rfl⟩,hes⟩:=hD
 have:=h.main A (Nat.le_refl _) (fn:=fn) (pos:=pos) fun e he=>(hes e he).1
 rw [deafBehind_still (fun e he=>(hes e he).2)] at this
 exact this
theorem DM.size {w':World} {es:Array Event} (hD:DM Wg Keep w w' es):w'.heap.size = w.heap.size:=by obtain ⟨⟨d,rfl⟩,_⟩:=hD;rfl
theorem DM.wg {w':World} {es:Array Event} (hD:DM Wg Keep w w' es) {st sm:Int} (h:WgAt ty Wg w st sm):WgAt ty Wg w' st sm:=by obtain ⟨⟨d,rfl⟩,_⟩:=hD;exact h
theorem DM.pay (hPay:∀ w w',Aside Wg w w' → Pay w → Pay w') {w':World} {es:Array Event} (hD:DM Wg Keep w w' es) (h:Pay w):Pay w':=by obtain ⟨⟨d,rfl⟩,_⟩:=hD;exact hPay _ _ (Aside.at _ _ _) h
theorem DM.rk {w':World} {es:Array Event} (hD:DM Wg Keep w w' es):RK ty Wg w w':=by obtain ⟨⟨d,rfl⟩,_⟩:=hD;exact RK.at _ _
theorem DM.rd {w':World} {es:Array Event} (hD:DM Wg Keep w w' es):RCd Low w w':=by obtain ⟨⟨d,rfl⟩,_⟩:=hD;exact RCd.at _ _
theorem goes_tree {R:Rel} (tr:∀ a b c,R a b → R b c → R a c) {D:Grd} {Stop:Stops} {main:Bool} {g:Goroutine} {m:Nat} (h:Goes P main R D Stop m g w):∃ t,WayT P main R D Stop t g w:=(Way.of_goes tr h).tree
section main
variable (A:Apt Sh Wg Keep c) (hLow:Wg < Low) (hPay:∀ w w',Aside Wg w w' → Pay w → Pay w') (hAn:∀ g w,Anch g w → WM P ty Wg Keep (MW1 P ty Wg Keep Pay Next Anch) g w)
include A hLow hPay hAn
theorem main_w1a {s d1:Nat} (hk:Wk P ty Sh Wg Keep Pay Low s t1 d1 b w) {t:WTr} (hm:WMT P ty Wg Keep (MW1 P ty Wg Keep Pay Next Anch) t a w) (hw:WgAt ty Wg w KK 0) (hp:PT Sh Wg Keep c w.heap.size 1 d1 (s ≤ 6) T) (hy:s ≤ 6 → Pay w)
 (hS:20 * s + 12 < S ∨ (S = 20 * s + 12 ∧ t0 = t)):(MOut P ty Sh Wg Keep Pay Next Anch Low c) S t1 t0 1 0 a b w T:=by
 rcases WayT.cases RM.refl hm with ⟨rfl,hstop⟩ | ⟨t',g',w',es,hlt,hgo,hD,hg'⟩
 ·obtain ⟨_,h1,_⟩:=hstop w (RM.refl w)
  obtain ⟨g',hgo,hg'⟩:=h1 hw
  obtain ⟨t',ht'⟩:=hg'.tree
  refine ⟨g',w,_,hgo,Nat.le_refl _,.inl ⟨_,t',1,.a hk (.w2 ht') hw (hp.mainBook A (wg_lt hw) rfl b_rd _ _) hy,?_⟩⟩
  rcases hS with h | ⟨h,_⟩ <;> exact .inl (by omega)
 ·refine ⟨g',w',es,hgo,Nat.le_of_eq hD.size.symm,.inl ⟨_,t',1,.a (hk.rely hD.rk) (.w1 hg') (hD.wg hw) (hp.mainIdle A hD _ _) (fun e=>hD.pay hPay (hy e)),?_⟩⟩
  rcases hS with h | ⟨h,rfl⟩
  ·exact .inl (by omega)
  ·exact .inr ⟨h.symm,.inl hlt⟩
theorem main_w1c {d1:Nat} (hk:QuitsD P q d1 b) {t:WTr} (hm:WMT P ty Wg Keep (MW1 P ty Wg Keep Pay Next Anch) t a w) (hw:WgAt ty Wg w 0 0) (hp:PT Sh Wg Keep c w.heap.size 1 d1 True T) (hy:Pay w)
 (hS:32 < S ∨ (S = 32 ∧ t0 = t)):(MOut P ty Sh Wg Keep Pay Next Anch Low c) S .leaf t0 1 q a b w T:=by
 rcases WayT.cases RM.refl hm with ⟨rfl,hstop⟩ | ⟨t',g',w',es,hlt,hgo,hD,hg'⟩
 ·obtain ⟨_,_,h1⟩:=hstop w (RM.refl w)
  obtain ⟨g',hgo,hg'⟩:=h1 hw
  obtain ⟨t',ht'⟩:=hg'.tree
  refine ⟨g',w,_,hgo,Nat.le_refl _,.inl ⟨_,t',1,.j hk (.ke ht') hw (hp.mainBook A (wg_lt hw) rfl b_rd _ _) hy,?_⟩⟩
  rcases hS with h | ⟨h,_⟩ <;> exact .inl (by omega)
 ·refine ⟨g',w',es,hgo,Nat.le_of_eq hD.size.symm,.inl ⟨_,t',1,.c hk (.w1 hg') (hD.wg hw) (hp.mainIdle A hD _ _) (hD.pay hPay hy),?_⟩⟩
  rcases hS with h | ⟨h,rfl⟩
  ·exact .inl (by simp [rkC];omega)
  ·exact .inr ⟨by simp [rkC];omega,.inl hlt⟩
theorem Sit.main (h:Sit P ty Sh Wg Keep Pay Next Anch Low c S t1 t0 k q a b w T) (hra:a.status = .running):(MOut P ty Sh Wg Keep Pay Next Anch Low c) S t1 t0 k q a b w T:=by
 cases h with
 | a hk hm hw hp hy=>
  cases hm with
  | kd hm=>
   rcases WayT.cases RM.refl hm with ⟨rfl,hstop⟩ | ⟨t',g',w',es,hlt,hgo,hD,hg'⟩
   ·obtain ⟨_,g',hgo,hg'⟩:=hstop w (RM.refl w)
    obtain ⟨t',ht'⟩:=hg'.tree
    exact ⟨g',w,_,hgo,Nat.le_refl _,.inl ⟨_,t',1,.a hk (.anch ht') hw (hp.mainBook A (wg_lt hw) rfl b_dis _ _) hy,.inl (by omega)⟩⟩
   ·exact ⟨g',w',es,hgo,Nat.le_of_eq hD.size.symm,.inl ⟨_,t',1,.a (hk.rely hD.rk) (.kd hg') (hD.wg hw) (hp.mainIdle A hD _ _) (fun e=>hD.pay hPay (hy e)),.inr ⟨rfl,.inl hlt⟩⟩⟩
  | anch hm=>
   rcases WayT.cases RM.refl hm with ⟨rfl,hstop⟩ | ⟨t',g',w',es,hlt,hgo,hD,hg'⟩
   ·obtain ⟨t,ht⟩:=(hAn a w (hstop w (RM.refl w))).tree
    exact main_w1a A hLow hPay hAn hk ht hw hp hy (.inl (by omega))
   ·exact ⟨g',w',es,hgo,Nat.le_of_eq hD.size.symm,.inl ⟨_,t',1,.a (hk.rely hD.rk) (.anch hg') (hD.wg hw) (hp.mainIdle A hD _ _) (fun e=>hD.pay hPay (hy e)),.inr ⟨rfl,.inl hlt⟩⟩⟩
  | w1 hm=>exact main_w1a A hLow hPay hAn hk hm hw hp hy (.inr ⟨by omega,rfl⟩)
  | w2 hm=>
   rcases WayT.cases RM.refl hm with ⟨rfl,hstop⟩ | ⟨t',g',w',es,hlt,hgo,hD,hg'⟩
   ·obtain ⟨_,hhit,_⟩:=hstop w (RM.refl w)
    obtain ⟨g',hgo,hg'⟩:=hhit hw
    obtain ⟨t',ht'⟩:=hg'.tree
    have hA:=aside_setCell w (stA Wg) (.int .u64 (KK + 1))
    exact ⟨g',_,_,hgo,Nat.le_of_eq hA.size.symm,.inl ⟨_,t',1,.b (hk.rely (RK.of_wg hA (.inr (WgAt.setSt hw _)))) (.w3 ht') (WgAt.setSt hw _) (hp.mainBook A (wg_lt hw) hA.size b_rw _ _) (fun e=>hPay _ _ hA (hy e)),.inl (by omega)⟩⟩
   ·exact ⟨g',w',es,hgo,Nat.le_of_eq hD.size.symm,.inl ⟨_,t',1,.a (hk.rely hD.rk) (.w2 hg') (hD.wg hw) (hp.mainIdle A hD _ _) (fun e=>hD.pay hPay (hy e)),.inr ⟨rfl,.inl hlt⟩⟩⟩
 | b hk hm hw hp hy=>
  cases hm with
  | w3 hm=>
   rcases WayT.cases RM.refl hm with ⟨rfl,hstop⟩ | ⟨t',g',w',es,hlt,hgo,hD,hg'⟩
   ·have h0:=(hstop w (RM.refl w)).2.2.1 ⟨_,hw⟩
    exact ⟨_,_,_,h0,Nat.le_refl _,.inl ⟨_,_,0,.b hk (.blk hstop) hw (by simpa [MemOp.ofEvents] using hp) hy,.inr ⟨rfl,.inr ⟨rfl,by omega⟩⟩⟩⟩
   ·exact ⟨g',w',es,hgo,Nat.le_of_eq hD.size.symm,.inl ⟨_,t',1,.b (hk.rely hD.rk) (.w3 hg') (hD.wg hw) (hp.mainIdle A hD _ _) (fun e=>hD.pay hPay (hy e)),.inr ⟨rfl,.inl hlt⟩⟩⟩
  | blk _=>cases hra
 | c hk hm hw hp hy=>
  cases hm with
  | kd hm=>
   rcases WayT.cases RM.refl hm with ⟨rfl,hstop⟩ | ⟨t',g',w',es,hlt,hgo,hD,hg'⟩
   ·obtain ⟨_,g',hgo,hg'⟩:=hstop w (RM.refl w)
    obtain ⟨t',ht'⟩:=hg'.tree
    exact ⟨g',w,_,hgo,Nat.le_refl _,.inl ⟨_,t',1,.c hk (.anch ht') hw (hp.mainBook A (wg_lt hw) rfl b_dis _ _) hy,.inl (by simp [rkC])⟩⟩
   ·exact ⟨g',w',es,hgo,Nat.le_of_eq hD.size.symm,.inl ⟨_,t',1,.c hk (.kd hg') (hD.wg hw) (hp.mainIdle A hD _ _) (hD.pay hPay hy),.inr ⟨rfl,.inl hlt⟩⟩⟩
  | anch hm=>
   rcases WayT.cases RM.refl hm with ⟨rfl,hstop⟩ | ⟨t',g',w',es,hlt,hgo,hD,hg'⟩
   ·obtain ⟨t,ht⟩:=(hAn a w (hstop w (RM.refl w))).tree
    exact main_w1c A hLow hPay hAn hk ht hw hp hy (.inl (by simp [rkC]))
   ·exact ⟨g',w',es,hgo,Nat.le_of_eq hD.size.symm,.inl ⟨_,t',1,.c hk (.anch hg') (hD.wg hw) (hp.mainIdle A hD _ _) (hD.pay hPay hy),.inr ⟨rfl,.inl hlt⟩⟩⟩
  | w1 hm=>exact main_w1c A hLow hPay hAn hk hm hw hp hy (.inr ⟨by simp [rkC],rfl⟩)
  | w2 hm=>
   rcases WayT.cases RM.refl hm with ⟨rfl,hstop⟩ | ⟨t',g',w',es,hlt,hgo,hD,hg'⟩
   ·obtain ⟨_,_,hmiss⟩:=hstop w (RM.refl w)
    obtain ⟨g',hgo,hg'⟩:=hmiss hw
    obtain ⟨t',ht'⟩:=hg'.tree
    exact ⟨g',w,_,hgo,Nat.le_refl _,.inl ⟨_,t',1,.c hk (.anch ht') hw (hp.mainBook A (wg_lt hw) rfl b_rd _ _) hy,.inl (by simp [rkC])⟩⟩
   ·exact ⟨g',w',es,hgo,Nat.le_of_eq hD.size.symm,.inl ⟨_,t',1,.c hk (.w2 hg') (hD.wg hw) (hp.mainIdle A hD _ _) (hD.pay hPay hy),.inr ⟨rfl,.inl hlt⟩⟩⟩
 | d hk hm hw hp hy=>
  cases hm with
  | w3 hm=>
   rcases WayT.cases RM.refl hm with ⟨rfl,hstop⟩ | ⟨t',g',w',es,hlt,hgo,hD,hg'⟩
   ·have h0:=(hstop w (RM.refl w)).2.2.1 ⟨_,hw⟩
    exact ⟨_,_,_,h0,Nat.le_refl _,.inl ⟨_,_,0,.d hk (.blk hstop) hw (by simpa [MemOp.ofEvents] using hp) hy,.inr ⟨rfl,.inr ⟨rfl,by omega⟩⟩⟩⟩
   ·exact ⟨g',w',es,hgo,Nat.le_of_eq hD.size.symm,.inl ⟨_,t',1,.d (hk.rely hD.rd) (.w3 hg') (hD.wg hw) (hp.mainIdle A hD _ _) (hD.pay hPay hy),.inr ⟨rfl,.inl hlt⟩⟩⟩
  | blk _=>cases hra
 | f hk hm hw hp hy=>
  cases hm with
  | w3 hm=>
   rcases WayT.cases RM.refl hm with ⟨rfl,hstop⟩ | ⟨t',g',w',es,hlt,hgo,hD,hg'⟩
   ·obtain ⟨g',hgo,hg'⟩:=(hstop w (RM.refl w)).2.2.2 hw
    obtain ⟨t',ht'⟩:=hg'.tree
    have hA:=aside_setCell w (smA Wg) (.int .u32 0)
    have:=hp.mainBook A (wg_lt hw) hA.size b_sem a.frame.fn a.frame.place
    exact ⟨g',_,_,hgo,Nat.le_of_eq hA.size.symm,.inl ⟨_,t',1,.j hk (.w4 ht') (WgAt.setSm hw _) (by simpa [deafBehind,semEvents] using this) (hPay _ _ hA hy),.inl (by omega)⟩⟩
   ·exact ⟨g',w',es,hgo,Nat.le_of_eq hD.size.symm,.inl ⟨_,t',1,.f hk (.w3 hg') (hD.wg hw) (hp.mainIdle A hD _ _) (hD.pay hPay hy),.inr ⟨rfl,.inl hlt⟩⟩⟩
 | j hk hm hw hp hy=>
  cases hm with
  | w4 hm=>
   rcases WayT.cases RM.refl hm with ⟨rfl,hstop⟩ | ⟨t',g',w',es,hlt,hgo,hD,hg'⟩
   ·obtain ⟨g',hgo,hg'⟩:=(hstop w (RM.refl w)).2 hw
    obtain ⟨t',ht'⟩:=hg'.tree
    exact ⟨g',w,_,hgo,Nat.le_refl _,.inl ⟨_,t',1,.j hk (.ke ht') hw (hp.mainBook A (wg_lt hw) rfl b_rd _ _) hy,.inl (by omega)⟩⟩
   ·exact ⟨g',w',es,hgo,Nat.le_of_eq hD.size.symm,.inl ⟨_,t',1,.j hk (.w4 hg') (hD.wg hw) (hp.mainIdle A hD _ _) (hD.pay hPay hy),.inr ⟨rfl,.inl hlt⟩⟩⟩
  | ke hm=>
   rcases WayT.cases RM.refl hm with ⟨rfl,hstop⟩ | ⟨t',g',w',es,hlt,hgo,hD,hg'⟩
   ·obtain ⟨_,g',hgo,hg'⟩:=hstop w (RM.refl w)
    obtain ⟨t',ht'⟩:=hg'.tree
    exact ⟨g',w,_,hgo,Nat.le_refl _,.inl ⟨_,t',1,.j hk (.acq ht') hw (hp.mainBook A (wg_lt hw) rfl b_ena _ _) hy,.inl (by omega)⟩⟩
   ·exact ⟨g',w',es,hgo,Nat.le_of_eq hD.size.symm,.inl ⟨_,t',1,.j hk (.ke hg') (hD.wg hw) (hp.mainIdle A hD _ _) (hD.pay hPay hy),.inr ⟨rfl,.inl hlt⟩⟩⟩
  | acq hm=>
   rcases WayT.cases RM.refl hm with ⟨rfl,hstop⟩ | ⟨t',g',w',es,hlt,hgo,hD,hg'⟩
   ·obtain ⟨_,g',hgo,hg'⟩:=hstop w (RM.refl w)
    exact ⟨g',w,_,hgo,Nat.le_refl _,.inr ⟨rfl,rfl,hg' hy,hy,_,hk,hp⟩⟩
   ·exact ⟨g',w',es,hgo,Nat.le_of_eq hD.size.symm,.inl ⟨_,t',1,.j hk (.acq hg') (hD.wg hw) (hp.mainIdle A hD _ _) (hD.pay hPay hy),.inr ⟨rfl,.inl hlt⟩⟩⟩
end main
end
end
section
open Conc
open Go.ConcX (stA smA OfWg WgAt KK rd wr mk AtK1 AtD1 AtD2 AtD3 AtD4 RCa RCd KCa DC0 WgAt.setSt WgAt.setSm WgAt.of_block)
open Go.ConcN (sumTo upd sumTo_upd upd_ne upd_same)
section
variable {P:Program} {ty:TypeId} {Sh:Loc → Prop} {Wg:Nat} {Keep:Nat → Prop} {Pay:World → Prop} {Next Anch:Goroutine → World → Prop} {Low c:Nat}
variable {S k q:Nat} {t1 t0:WTr} {a b:Goroutine} {w:World} {T:Trace} {d0 d1:Nat} {rel:Prop}
theorem PT.still (h:PT Sh Wg Keep c w.heap.size d0 d1 rel T) (g:Nat) (fn:FuncId) (pos:String):PT Sh Wg Keep c w.heap.size d0 d1 rel (T ++ MemOp.ofEvents g fn pos #[]):=by
 simpa [MemOp.ofEvents] using h
theorem PT.workBook (A:Apt Sh Wg Keep c) (h:PT Sh Wg Keep c w.heap.size d0 d1 rel T) (hW:Wg < w.heap.size) {w':World} (hs:w'.heap.size = w.heap.size) {es:Array Event} (hes:∀ e ∈ es,EvB Wg e)
 (hd:∀ j e,es[j]? = some e → (MemAct.ofEvent e).touch? = none ∨ 0 < deafBehind d1 (es.extract 0 j)) (fn:FuncId) (pos:String) :
 PT Sh Wg Keep c w'.heap.size d0 (deafBehind d1 es) rel (T ++ MemOp.ofEvents c fn pos es):=by
 rw [hs];exact h.book A hW hes hd
theorem deaf1_rd:∀ (j:Nat) (e:Event),(#[rd (stA Wg)]:Array Event)[j]? = some e → (MemAct.ofEvent e).touch? = none ∨ 0 < deafBehind 1 ((#[rd (stA Wg)]:Array Event).extract 0 j)
 | 0,_,_=>.inr (by simp [deafBehind])
 | j + 1,e,he=>by simp at he
theorem deaf1_wr:∀ (j:Nat) (e:Event),(#[wr (stA Wg)]:Array Event)[j]? = some e → (MemAct.ofEvent e).touch? = none ∨ 0 < deafBehind 1 ((#[wr (stA Wg)]:Array Event).extract 0 j)
 | 0,_,_=>.inr (by simp [deafBehind])
 | j + 1,e,he=>by simp at he
theorem deaf1_rw:∀ (j:Nat) (e:Event),(#[rd (stA Wg),wr (stA Wg)]:Array Event)[j]? = some e → (MemAct.ofEvent e).touch? = none ∨ 0 < deafBehind 1 ((#[rd (stA Wg),wr (stA Wg)]:Array Event).extract 0 j)
 | 0,_,_=>.inr (by simp [deafBehind])
 | 1,_,_=>.inr (by simp [deafBehind,rd])
 | j + 2,e,he=>by simp at he
theorem deaf1_sem:∀ (j:Nat) (e:Event),(semEvents (smA Wg))[j]? = some e → (MemAct.ofEvent e).touch? = none ∨ 0 < deafBehind 1 ((semEvents (smA Wg)).extract 0 j)
 | 0,_,he=>by simp [semEvents] at he;subst he;exact .inl rfl
 | 1,_,_=>.inr (by simp [deafBehind,semEvents])
 | 2,_,_=>.inr (by simp [deafBehind,semEvents])
 | 3,_,he=>by simp [semEvents] at he;subst he;exact .inl rfl
 | j + 4,e,he=>by simp [semEvents] at he
theorem deaf_dis (d1:Nat):∀ (j:Nat) (e:Event),(#[mk .disable]:Array Event)[j]? = some e → (MemAct.ofEvent e).touch? = none ∨ 0 < deafBehind d1 ((#[mk .disable]:Array Event).extract 0 j)
 | 0,_,he=>by simp at he;subst he;exact .inl rfl
 | j + 1,e,he=>by simp at he
theorem PT.relT (h:PT Sh Wg Keep c w.heap.size d0 d1 rel T) {rel':Prop} (e:rel' → rel):PT Sh Wg Keep c w.heap.size d0 d1 rel' T:=
 ⟨h.clean,h.known0,h.known1,h.wgq,h.over,h.deaf0,h.deaf1,h.norel,h.seen,fun x=>h.rel (e x)⟩
section worker
variable (A:Apt Sh Wg Keep c) (hLow:Wg < Low) (hPay:∀ w w',Aside Wg w w' → Pay w → Pay w') (hAr:∀ g w,Anch g w → g.status = .running)
include A hLow hPay hAr
theorem quit_step {q d1:Nat} (hq:QuitsD P q d1 b) (hr:b.status = .running) (hp:PT Sh Wg Keep c w.heap.size d0 d1 True T) (hW:Wg < w.heap.size) :
 ∃ b' es q' d1',stepG P false b w = .go b' w es ∧ q' < q ∧ QuitsD P q' d1' b' ∧ PT Sh Wg Keep c w.heap.size d0 d1' True (T ++ MemOp.ofEvents c b.frame.fn b.frame.place es):=by
 cases q with
 | zero=>rw [hq.1] at hr;cases hr
 | succ q=>
  rcases hq with ⟨h,_⟩ | ⟨_,b',es,hm,hst,hq'⟩
  ·rw [h] at hr;cases hr
  ·exact ⟨b',es,q,_,hst w,by omega,hq',hp.mute1 A hW hm⟩
theorem Sit.worker (h:Sit P ty Sh Wg Keep Pay Next Anch Low c S t1 t0 k q a b w T) (hrb:b.status = .running):(WOut P ty Sh Wg Keep Pay Next Anch Low c) S t1 q a b w T:=by
 cases h with
 | a hk hm hw hp hy=>
  have hwk:∀ b' w',woken P b b' w' a = a:=fun b' w'=>woken_run (hm.running hAr)
  cases hk with
  | r0 hk=>
   rcases WayT.cases RK.refl hk with ⟨rfl,hstop⟩ | ⟨t',g',w',es,hlt,hgo,hD,hg'⟩
   ·obtain ⟨_,hpay,g',hgo,m,hg'⟩:=hstop w (RK.refl w)
    obtain ⟨t',ht'⟩:=goes_tree RCa.tr hg'
    refine ⟨g',w,_,hgo,Nat.le_refl _,_,t',t0,1,0,?_,.inl (Nat.add_lt_add_right (by decide:20 * 6 < 20 * 7) _)⟩
    rw [hwk]
    exact .a (.k1 ht') hm hw ((hp.relT (rel':=False) (fun e=>e.elim)).release A (wg_lt hw) |>.relT fun _=>trivial) fun _=>hpay
   ·refine ⟨g',w',es,hgo,hD.size,_,t',t0,1,0,?_,.inr (.inr ⟨rfl,rfl,hlt⟩)⟩
    rw [hwk]
    have h1:=(hp.relT (rel':=False) (fun e=>e.elim)).work A hD.size (fn:=b.frame.fn) (pos:=b.frame.place) fun e he=>(hD.evs e he).1
    rw [deafBehind_still (fun e he=>(hD.evs e he).2)] at h1
    exact .a (.r0 hg') (hm.rely (RM.of_work hD)) (WgAt.of_block hw hD.wg) (h1.relT fun e=>by omega) fun e=>by omega
  | k1 hk=>
   rcases WayT.cases RCa.refl hk with ⟨rfl,hstop⟩ | ⟨t',g',w',es,hlt,hgo,hD,hg'⟩
   ·obtain ⟨_,g',hgo,m,hg'⟩:=hstop w (RCa.refl w)
    obtain ⟨t',ht'⟩:=goes_tree RCa.tr hg'
    refine ⟨g',w,_,hgo,Nat.le_refl _,_,t',t0,1,0,?_,.inl (Nat.add_lt_add_right (by decide:20 * 5 < 20 * 6) _)⟩
    rw [hwk]
    exact .a (.d1 ht') hm hw ((hp.workBook A (wg_lt hw) rfl b_dis (deaf_dis 0) _ _).relT fun _=>Nat.le_refl 6) fun _=>hy (Nat.le_refl 6)
   ·obtain ⟨rfl,rfl⟩:=hD
    refine ⟨g',_,_,hgo,Nat.le_refl _,_,t',t0,1,0,?_,.inr (.inr ⟨rfl,rfl,hlt⟩)⟩
    rw [hwk]
    exact .a (.k1 hg') hm hw (hp.still _ _ _) hy
  | d1 hk=>
   rcases WayT.cases RCa.refl hk with ⟨rfl,hstop⟩ | ⟨t',g',w',es,hlt,hgo,hD,hg'⟩
   ·obtain ⟨_,h0,_⟩:=hstop w (RCa.refl w)
    obtain ⟨g',hgo,q',hq'⟩:=h0 hw
    have hA:=aside_setCell w (stA Wg) (.int .u64 0)
    refine ⟨g',_,_,hgo,Nat.le_of_eq hA.size.symm,?S,.leaf,t0,1,q',?h1,?h2⟩
    case h1=>
     rw [hwk]
     exact .c hq' (hm.rely (RM.of_wg A.kw hA ⟨_,_,WgAt.setSt hw 0⟩)) (WgAt.setSt hw 0) ((hp.workBook A (wg_lt hw) hA.size b_rw deaf1_rw _ _).relT fun _=>by omega) (hPay _ _ hA (hy (by omega)))
    case h2=>exact .inl (by cases hm <;> simp [rkC])
   ·obtain ⟨rfl,rfl⟩:=hD
    refine ⟨g',_,_,hgo,Nat.le_refl _,_,t',t0,1,0,?_,.inr (.inr ⟨rfl,rfl,hlt⟩)⟩
    rw [hwk]
    exact .a (.d1 hg') hm hw (hp.still _ _ _) hy
 | b hk hm hw hp hy=>
  cases hk with
  | r0 hk=>
   rcases WayT.cases RK.refl hk with ⟨rfl,hstop⟩ | ⟨t',g',w',es,hlt,hgo,hD,hg'⟩
   ·obtain ⟨_,hpay,g',hgo,m,hg'⟩:=hstop w (RK.refl w)
    obtain ⟨t',ht'⟩:=goes_tree RCa.tr hg'
    obtain ⟨t0',k',hm'⟩:=hm.woken b g' w
    refine ⟨g',w,_,hgo,Nat.le_refl _,_,t',t0',k',0,?_,.inl (Nat.add_lt_add_right (by decide:20 * 6 < 20 * 7) _)⟩
    exact .b (.k1 ht') hm' hw ((hp.relT (rel':=False) (fun e=>e.elim)).release A (wg_lt hw) |>.relT fun _=>trivial) fun _=>hpay
   ·obtain ⟨t0',k',hm'⟩:=(hm.rely (RM.of_work hD)).woken b g' w'
    refine ⟨g',w',es,hgo,hD.size,_,t',t0',k',0,?_,.inr (.inr ⟨rfl,rfl,hlt⟩)⟩
    have h1:=(hp.relT (rel':=False) (fun e=>e.elim)).work A hD.size (fn:=b.frame.fn) (pos:=b.frame.place) fun e he=>(hD.evs e he).1
    rw [deafBehind_still (fun e he=>(hD.evs e he).2)] at h1
    exact .b (.r0 hg') hm' (WgAt.of_block hw hD.wg) (h1.relT fun e=>by omega) fun e=>by omega
  | k1 hk=>
   rcases WayT.cases RCa.refl hk with ⟨rfl,hstop⟩ | ⟨t',g',w',es,hlt,hgo,hD,hg'⟩
   ·obtain ⟨_,g',hgo,m,hg'⟩:=hstop w (RCa.refl w)
    obtain ⟨t',ht'⟩:=goes_tree RCa.tr hg'
    obtain ⟨t0',k',hm'⟩:=hm.woken b g' w
    refine ⟨g',w,_,hgo,Nat.le_refl _,_,t',t0',k',0,?_,.inl (Nat.add_lt_add_right (by decide:20 * 5 < 20 * 6) _)⟩
    exact .b (.d1 ht') hm' hw ((hp.workBook A (wg_lt hw) rfl b_dis (deaf_dis 0) _ _).relT fun _=>Nat.le_refl 6) fun _=>hy (Nat.le_refl 6)
   ·obtain ⟨rfl,rfl⟩:=hD
    obtain ⟨t0',k',hm'⟩:=hm.woken b g' w'
    refine ⟨g',_,_,hgo,Nat.le_refl _,_,t',t0',k',0,?_,.inr (.inr ⟨rfl,rfl,hlt⟩)⟩
    exact .b (.k1 hg') hm' hw (hp.still _ _ _) hy
  | d1 hk=>
   rcases WayT.cases RCa.refl hk with ⟨rfl,hstop⟩ | ⟨t',g',w',es,hlt,hgo,hD,hg'⟩
   ·obtain ⟨_,_,h0⟩:=hstop w (RCa.refl w)
    obtain ⟨g',hgo,m,hg'⟩:=h0 hw
    obtain ⟨t',ht'⟩:=goes_tree RCd.tr hg'
    have hA:=aside_setCell w (stA Wg) (.int .u64 1)
    obtain ⟨t0',k',hm'⟩:=(hm.rely (RM.of_wg A.kw hA ⟨_,_,WgAt.setSt hw 1⟩)).woken b g' (w.setCell (stA Wg) (.int .u64 1))
    refine ⟨g',_,_,hgo,Nat.le_of_eq hA.size.symm,_,t',t0',k',0,?_,.inl (show 20 * 4 + 8 < _ by omega)⟩
    exact .d (.d2 ht') hm' (WgAt.setSt hw 1) ((hp.workBook A (wg_lt hw) hA.size b_rw deaf1_rw _ _).relT fun _=>by omega) (hPay _ _ hA (hy (by omega)))
   ·obtain ⟨rfl,rfl⟩:=hD
    obtain ⟨t0',k',hm'⟩:=hm.woken b g' w'
    refine ⟨g',_,_,hgo,Nat.le_refl _,_,t',t0',k',0,?_,.inr (.inr ⟨rfl,rfl,hlt⟩)⟩
    exact .b (.d1 hg') hm' hw (hp.still _ _ _) hy
 | c hk hm hw hp hy=>
  obtain ⟨b',es,q',d1',hgo,hlt,hq',hp'⟩:=quit_step A hLow hPay hAr hk hrb hp (wg_lt hw)
  refine ⟨b',w,es,hgo,Nat.le_refl _,_,.leaf,t0,1,q',?_,.inr (.inl ⟨rfl,hlt⟩)⟩
  rw [woken_run (hm.running hAr)]
  exact .c hq' hm hw hp' hy
 | d hk hm hw hp hy=>
  cases hk with
  | d2 hk=>
   rcases WayT.cases RCd.refl hk with ⟨rfl,hstop⟩ | ⟨t',g',w',es,hlt,hgo,hD,hg'⟩
   ·obtain ⟨_,g',hgo,m,hg'⟩:=hstop w (RCd.refl w)
    obtain ⟨t',ht'⟩:=goes_tree RCd.tr hg'
    obtain ⟨t0',k',hm'⟩:=hm.woken b g' w
    exact ⟨g',w,_,hgo,Nat.le_refl _,_,t',t0',k',0,.d (.d3 ht') hm' hw (hp.workBook A (wg_lt hw) rfl b_rd deaf1_rd _ _) hy,.inl (show 20 * 3 + _ < _ by omega)⟩
   ·obtain ⟨rfl,rfl⟩:=hD
    obtain ⟨t0',k',hm'⟩:=hm.woken b g' w'
    exact ⟨g',_,_,hgo,Nat.le_refl _,_,t',t0',k',0,.d (.d2 hg') hm' hw (hp.still _ _ _) hy,.inr (.inr ⟨rfl,rfl,hlt⟩)⟩
  | d3 hk=>
   rcases WayT.cases RCd.refl hk with ⟨rfl,hstop⟩ | ⟨t',g',w',es,hlt,hgo,hD,hg'⟩
   ·obtain ⟨_,g',hgo,m,hg'⟩:=hstop w (RCd.refl w)
    obtain ⟨t',ht'⟩:=goes_tree RCd.tr hg'
    have hA:=aside_setCell w (stA Wg) (.int .u64 0)
    obtain ⟨t0',k',hm'⟩:=(hm.rely (RM.of_wg A.kw hA ⟨_,_,WgAt.setSt hw 0⟩)).woken b g' (w.setCell (stA Wg) (.int .u64 0))
    exact ⟨g',_,_,hgo,Nat.le_of_eq hA.size.symm,_,t',t0',k',0,.d (.d4 ht') hm' (WgAt.setSt hw 0) (hp.workBook A (wg_lt hw) hA.size b_wr deaf1_wr _ _) (hPay _ _ hA hy),.inl (show 20 * 2 + _ < _ by omega)⟩
   ·obtain ⟨rfl,rfl⟩:=hD
    obtain ⟨t0',k',hm'⟩:=hm.woken b g' w'
    exact ⟨g',_,_,hgo,Nat.le_refl _,_,t',t0',k',0,.d (.d3 hg') hm' hw (hp.still _ _ _) hy,.inr (.inr ⟨rfl,rfl,hlt⟩)⟩
  | d4 hk=>
   rcases WayT.cases RCd.refl hk with ⟨rfl,hstop⟩ | ⟨t',g',w',es,hlt,hgo,hD,hg'⟩
   ·obtain ⟨_,hwake,g',hgo,q',hq'⟩:=hstop w (RCd.refl w)
    have hA:=aside_setCell w (smA Wg) (.int .u32 1)
    have hwk:woken P b g' (w.setCell (smA Wg) (.int .u32 1)) a = a.again (w.setCell (smA Wg) (.int .u32 1)):=by
     unfold Conc.woken
     rcases hq'.status with e | e <;> simp [hwake,e]
    obtain ⟨t0',hm'⟩:=(hm.rely (RM.of_wg A.kw hA ⟨_,_,WgAt.setSm hw 1⟩)).again (w.setCell (smA Wg) (.int .u32 1))
    refine ⟨g',_,_,hgo,Nat.le_of_eq hA.size.symm,28,.leaf,t0',1,q',?_,.inl (by omega)⟩
    rw [hwk]
    have:=hp.workBook A (wg_lt hw) hA.size b_sem deaf1_sem b.frame.fn b.frame.place
    exact .f hq' hm' (WgAt.setSm hw 1) this (hPay _ _ hA hy)
   ·obtain ⟨rfl,rfl⟩:=hD
    obtain ⟨t0',k',hm'⟩:=hm.woken b g' w'
    exact ⟨g',_,_,hgo,Nat.le_refl _,_,t',t0',k',0,.d (.d4 hg') hm' hw (hp.still _ _ _) hy,.inr (.inr ⟨rfl,rfl,hlt⟩)⟩
 | f hk hm hw hp hy=>
  obtain ⟨b',es,q',d1',hgo,hlt,hq',hp'⟩:=quit_step A hLow hPay hAr hk hrb hp (wg_lt hw)
  refine ⟨b',w,es,hgo,Nat.le_refl _,_,.leaf,t0,1,q',?_,.inr (.inl ⟨rfl,hlt⟩)⟩
  rw [woken_run (hm.status.elim (fun x=>x.2) (fun x=>by cases x.1))]
  exact .f hq' hm hw hp' hy
 | j hk hm hw hp hy=>
  obtain ⟨b',es,q',d1',hgo,hlt,hq',hp'⟩:=quit_step A hLow hPay hAr hk hrb hp (wg_lt hw)
  refine ⟨b',w,es,hgo,Nat.le_refl _,_,.leaf,t0,1,q',?_,.inr (.inl ⟨rfl,hlt⟩)⟩
  rw [woken_run hm.running]
  exact .j hq' hm hw hp' hy
end worker
theorem Sit.at (hPay:∀ w w',Aside Wg w w' → Pay w → Pay w') (h:Sit P ty Sh Wg Keep Pay Next Anch Low c S t1 t0 k q a b w T) (d:Nat):Sit P ty Sh Wg Keep Pay Next Anch Low c S t1 t0 k q a b (w.at d) T:=by
 have py:Pay w → Pay (w.at d):=hPay _ _ (Aside.at _ _ _)
 cases h with
 | a hk hm hw hp hy=>exact .a (hk.rely (RK.at _ _)) (hm.rely (RM.at _ _)) hw hp fun e=>py (hy e)
 | b hk hm hw hp hy=>exact .b (hk.rely (RK.at _ _)) (hm.rely (RM.at _ _)) hw hp fun e=>py (hy e)
 | c hk hm hw hp hy=>exact .c hk (hm.rely (RM.at _ _)) hw hp (py hy)
 | d hk hm hw hp hy=>exact .d (hk.rely (RCd.at _ _)) (hm.rely (RM.at _ _)) hw hp (py hy)
 | f hk hm hw hp hy=>exact .f hk (hm.rely (RM.at _ _)) hw hp (py hy)
 | j hk hm hw hp hy=>exact .j hk (hm.rely (RM.at _ _)) hw hp (py hy)
theorem Sit.leaver (A:Apt Sh Wg Keep c) (hAr:∀ g w,Anch g w → g.status = .running) (h:Sit P ty Sh Wg Keep Pay Next Anch Low c S t1 t0 k q a b w T) (g g':Goroutine) {i:Nat} (h0:i ≠ 0) (h1:i ≠ c) {fn:FuncId} {pos:String} {es:Array Event} (hm:∀ e ∈ es,e.mute = true) :
 ∃ t0' k',Sit P ty Sh Wg Keep Pay Next Anch Low c S t1 t0' k' q (woken P g g' w a) (woken P g g' w b) w (T ++ MemOp.ofEvents i fn pos es):=by
 cases h with
 | a hk hm' hw hp hy=>rw [woken_run (hm'.running hAr),woken_run hk.running];exact ⟨_,_,.a hk hm' hw (hp.mute A h0 h1 hm) hy⟩
 | b hk hm' hw hp hy=>obtain ⟨t',k',hm''⟩:=hm'.woken g g' w;rw [woken_run hk.running];exact ⟨_,_,.b hk hm'' hw (hp.mute A h0 h1 hm) hy⟩
 | c hk hm' hw hp hy=>rw [woken_run (hm'.running hAr),woken_quitsD hk];exact ⟨_,_,.c hk hm' hw (hp.mute A h0 h1 hm) hy⟩
 | d hk hm' hw hp hy=>obtain ⟨t',k',hm''⟩:=hm'.woken g g' w;rw [woken_run hk.running];exact ⟨_,_,.d hk hm'' hw (hp.mute A h0 h1 hm) hy⟩
 | f hk hm' hw hp hy=>rw [woken_run (hm'.status.elim (fun x=>x.2) (fun x=>by cases x.1)),woken_quitsD hk];exact ⟨_,_,.f hk hm' hw (hp.mute A h0 h1 hm) hy⟩
 | j hk hm' hw hp hy=>rw [woken_run hm'.running,woken_quitsD hk];exact ⟨_,_,.j hk hm' hw (hp.mute A h0 h1 hm) hy⟩
theorem Sit.awake (hAr:∀ g w,Anch g w → g.status = .running) (h:Sit P ty Sh Wg Keep Pay Next Anch Low c S t1 t0 k q a b w T):Conc.awake a ∧ Conc.awake b ∧ (a.status = .running ∨ b.status = .running):=by
 cases h with
 | a hk hm hw hp hy=>exact ⟨awake_of (.inl (hm.running hAr)),awake_of (.inl hk.running),.inr hk.running⟩
 | b hk hm hw hp hy=>exact ⟨awake_of (hm.status.elim (fun x=>.inl x.2) (fun x=>.inr (.inl x.2))),awake_of (.inl hk.running),.inr hk.running⟩
 | c hk hm hw hp hy=>exact ⟨awake_of (.inl (hm.running hAr)),awake_of (hk.status.elim .inl fun x=>.inr (.inr x)),.inl (hm.running hAr)⟩
 | d hk hm hw hp hy=>exact ⟨awake_of (hm.status.elim (fun x=>.inl x.2) (fun x=>.inr (.inl x.2))),awake_of (.inl hk.running),.inr hk.running⟩
 | f hk hm hw hp hy=>exact have r:=hm.status.elim (fun x=>x.2) (fun x=>(by cases x.1));⟨awake_of (.inl r),awake_of (hk.status.elim .inl fun x=>.inr (.inr x)),.inl r⟩
 | j hk hm hw hp hy=>exact ⟨awake_of (.inl hm.running),awake_of (hk.status.elim .inl fun x=>.inr (.inr x)),.inl hm.running⟩
end
end
section
open Conc
open Go.ConcX (stA smA OfWg WgAt KK rd wr mk AtK1 AtD1 AtD2 AtD3 AtD4 RCa RCd KCa DC0)
open Go.ConcN (sumTo upd sumTo_upd upd_ne upd_same)
structure RunM (P:Program) (m0:Machine) (J:Nat) (M:Machine) (T:Trace):Prop where
 run:runNT P J m0 #[] = (.next M,T)
 up:∀ j,j ≤ J → ∃ m,runN P j m0 = .next m ∧ m.world.heap.size ≤ M.world.heap.size
theorem runNT_snoc {P:Program}:∀ {J:Nat} {m M M':Machine} {T T':Trace} {ops:Array MemOp},runNT P J m T = (.next M,T') → stepT P M = (.next M',ops) → runNT P (J + 1) m T = (.next M',T' ++ ops)
 | 0,m,M,M',T,T',ops,h,hs=>by
  simp only [runNT,Prod.mk.injEq,Stepped.next.injEq] at h
  obtain ⟨rfl,rfl⟩:=h
  simp [runNT,hs]
 | J + 1,m,M,M',T,T',ops,h,hs=>by
  rw [runNT] at h ⊢
  split at h
  ·rename_i m' ops' hst
   exact runNT_snoc h hs
  ·rename_i x e ops' hn hst
   cases h
   exact (hn _ rfl).elim
theorem RunM.nil (P:Program) (m0:Machine):RunM P m0 0 m0 #[]:=⟨rfl,fun j hj=>by
 obtain rfl:j = 0:=by omega
 exact ⟨m0,rfl,Nat.le_refl _⟩⟩
theorem RunM.step {P:Program} {m0 M M':Machine} {J:Nat} {T:Trace} {ops:Array MemOp} (h:RunM P m0 J M T) (hs:stepT P M = (.next M',ops)) (hl:M.world.heap.size ≤ M'.world.heap.size):RunM P m0 (J + 1) M' (T ++ ops):=by
 have hr:=runNT_snoc h.run hs
 refine ⟨hr,fun j hj=>?_⟩
 rcases Nat.lt_or_ge J j with hlt | hge
 ·obtain rfl:j = J + 1:=by omega
  refine ⟨M',?_,Nat.le_refl _⟩
  have:=runNT_fst P (J + 1) m0 #[]
  rw [hr] at this;exact this.symm
 ·obtain ⟨m,hm,hle⟩:=h.up j hge
  exact ⟨m,hm,Nat.le_trans hle hl⟩
def DL (Sh:Loc → Prop) (Wg:Nat) (w w':World) (es:Array Event):Prop:=w.heap.size ≤ w'.heap.size ∧ ∀ e ∈ es,EvLT Sh Wg w'.heap.size e ∧ e.loc ≠ .mark .disable ∧ e.loc ≠ .mark .enable
structure Lone (P:Program) (m0:Machine) (Sh:Loc → Prop) (Wg d:Nat) (gs:Array Goroutine) (a:Goroutine) (w:World) (sl:Option (Nat × Nat)) (T:Trace) (q:Nat → Nat):Prop where
 run:∃ J,RunM P m0 J (crowd gs w sl) T
 h0:gs[0]? = some a
 lv:Leavers P T gs q
 lt:LT Sh Wg w.heap.size d T
section
variable {P:Program} {m0:Machine} {Sh:Loc → Prop} {Wg d:Nat} {gs:Array Goroutine} {a:Goroutine} {w:World} {sl:Option (Nat × Nat)} {T:Trace} {q:Nat → Nat}
theorem awake_all (h0:gs[0]? = some a) (hra:a.status = .running) (hL:Leavers P T gs q):∀ g ∈ gs,Conc.awake g:=by
 intro g hg
 obtain ⟨i,hi,rfl⟩:=Array.mem_iff_getElem.1 hg
 rcases Nat.eq_zero_or_pos i with rfl | hpos
 ·have:gs[0] = a:=by simpa [Array.getElem?_eq_getElem hi] using h0
  rw [this];exact awake_of (.inl hra)
 ·exact awake_of ((hL.old i _ hpos (Array.getElem?_eq_getElem hi)).status.elim .inl fun x=>.inr (.inr x))
theorem atRel_tr:∀ a b c,AtRel a b → AtRel b c → AtRel a c:=by
 rintro a b c ⟨d,rfl⟩ ⟨d',rfl⟩
 exact ⟨d',rfl⟩
theorem Lone.step (h:Lone P m0 Sh Wg d gs a w sl T q) {dd:Nat} {sl':Option (Nat × Nat)} (hst:stepT P (crowd gs w sl) = runT P (crowd gs (w.at dd) sl') 0) {a':Goroutine} {w':World} {es:Array Event}
 (hgo:stepG P true a (w.at dd) = .go a' w' es) (hs:w.heap.size ≤ w'.heap.size) (hes:∀ e ∈ es,EvLT Sh Wg w'.heap.size e) :
 Lone P m0 Sh Wg (deafBehind d es) ((gs.map (woken P a a' w')).setIfInBounds 0 a') a' w' sl' (T ++ MemOp.ofEvents 0 a.frame.fn a.frame.place es) q:=by
 obtain ⟨J,hR⟩:=h.run
 have hrunT:=runT_crowd_go (P:=P) (sl:=sl') (i:=0) h.h0 (show stepG P (0 == 0) a (w.at dd) = _ from hgo)
 exact ⟨⟨J + 1,hR.step (hst.trans hrunT) hs⟩,get_set_same h.h0,((LB.of h.lv).own (.inl rfl) (Array.getElem?_eq_some_iff.1 h.h0).1 _ _ _).to,h.lt.own hs hes⟩
theorem Lone.slip (h:Lone P m0 Sh Wg d gs a w sl T q) (hra:a.status = .running) {i dd:Nat} {sl':Option (Nat × Nat)} (hpos:0 < i) {x:Goroutine} (hi:gs[i]? = some x) (hx:x.status = .running)
 (hst:stepT P (crowd gs w sl) = runT P (crowd gs (w.at dd) sl') i) :
 ∃ gs' T' q',Lone P m0 Sh Wg d gs' a (w.at dd) sl' T' q' ∧ gs'.size = gs.size ∧ sumTo gs'.size q' < sumTo gs.size q:=by
 obtain ⟨g',es,k,hm,hstp,hq,hL'⟩:=(LB.of h.lv).slip hpos id hi hx
 have hi0:(i == 0) = false:=by simp;omega
 have hrunT:=runT_crowd_go (P:=P) (sl:=sl') (i:=i) hi (by rw [hi0];exact hstp (w.at dd))
 obtain ⟨J,hR⟩:=h.run
 refine ⟨_,_,upd q i k,⟨⟨J + 1,hR.step (hst.trans hrunT) (Nat.le_refl _)⟩,by rw [get_set_other (by omega),h.h0,Option.map_some,woken_run hra],(hL' _ _ _).to,h.lt.mute (by omega) hm⟩,by simp,?_⟩
 simpa using sum_slip (q:=q) (Array.getElem?_eq_some_iff.1 hi).1 hq
abbrev LtL:WTr × Nat → WTr × Nat → Prop:=Prod.Lex WTr.Below (· < ·)
theorem ltL_wf:WellFounded LtL:=(Prod.lex ⟨WTr.Below,WTr.wf⟩ Nat.lt_wfRel).wf
theorem Lone.walkT {Stop:Stops} (hSr:∀ g w,Stop g w → g.status = .running):∀ (μ:WTr × Nat) (gs:Array Goroutine) (a:Goroutine) (w:World) (sl:Option (Nat × Nat)) (T:Trace) (q:Nat → Nat),
 μ.2 = sumTo gs.size q → Lone P m0 Sh Wg d gs a w sl T q → WayT P true AtRel (DL Sh Wg) Stop μ.1 a w →
 ∃ gs' a' w' sl' T' q' dd sl'',Lone P m0 Sh Wg d gs' a' w' sl' T' q' ∧ gs'.size = gs.size ∧ w.heap.size ≤ w'.heap.size ∧ stepT P (crowd gs' w' sl') = runT P (crowd gs' (w'.at dd) sl'') 0 ∧ Stop a' (w'.at dd):=by
 intro μ
 induction μ using ltL_wf.induction with
 | _ μ ih=>
  obtain ⟨t,n⟩:=μ
  intro gs a w sl T q hn h hw
  simp only at hn hw
  have hra:a.status = .running:=hw.status AtRel.refl hSr
  obtain ⟨i,x,dd,sl',hi,hx,hst⟩:=crowd_pick (P:=P) (w:=w) (sl:=sl) (awake_all h.h0 hra h.lv) ⟨0,a,h.h0,hra⟩
  have hw':WayT P true AtRel (DL Sh Wg) Stop t a (w.at dd):=hw.rely atRel_tr ⟨dd,rfl⟩
  rcases Nat.eq_zero_or_pos i with rfl | hpos
  ·rcases hw'.cases AtRel.refl with ⟨rfl,hstop⟩ | ⟨t',g',w',es,hlt,hgo,hD,hg'⟩
   ·exact ⟨gs,a,w,sl,T,q,dd,sl',h,rfl,Nat.le_refl _,hst,hstop _ (AtRel.refl _)⟩
   ·have h':=h.step hst hgo hD.1 (fun e he=>(hD.2 e he).1)
    rw [deafBehind_still (fun e he=>(hD.2 e he).2)] at h'
    obtain ⟨gs',a',w'',sl'',T',q',dd',sl3,e1,e2,e3,e4,e5⟩:=ih (t',_) (.left _ _ hlt) _ _ _ _ _ _ rfl h' hg'
    exact ⟨gs',a',w'',sl'',T',q',dd',sl3,e1,e2.trans (by simp),Nat.le_trans hD.1 e3,e4,e5⟩
  ·obtain ⟨gs',T',q',h',hs,hlt⟩:=h.slip hra hpos hi hx hst
   obtain ⟨gs₂,a',w'',sl'',T₂,q₂,dd',sl3,e1,e2,e3,e4,e5⟩:=ih (t,_) (.right _ (by omega)) _ _ _ _ _ _ rfl h' hw'
   exact ⟨gs₂,a',w'',sl'',T₂,q₂,dd',sl3,e1,e2.trans hs,e3,e4,e5⟩
theorem Lone.walk {Stop:Stops} (hSr:∀ g w,Stop g w → g.status = .running) (h:Lone P m0 Sh Wg d gs a w sl T q) (hw:Way P true AtRel (DL Sh Wg) Stop a w) :
 ∃ gs' a' w' sl' T' q' dd sl'',Lone P m0 Sh Wg d gs' a' w' sl' T' q' ∧ gs'.size = gs.size ∧ w.heap.size ≤ w'.heap.size ∧ stepT P (crowd gs' w' sl') = runT P (crowd gs' (w'.at dd) sl'') 0 ∧ Stop a' (w'.at dd):=by
 obtain ⟨t,ht⟩:=hw.tree
 exact Lone.walkT hSr (t,_) gs a w sl T q rfl h ht
end
section
variable (P:Program) (m0:Machine) (ty:TypeId) (Sh:Loc → Prop) (Wg:Nat) (Keep:Nat → Prop) (Pay:World → Prop) (Next Anch:Goroutine → World → Prop) (Low c:Nat)
abbrev LtP:Nat × Nat × WTr × WTr × Nat → Nat × Nat × WTr × WTr × Nat → Prop:=Prod.Lex (· < ·) (Prod.Lex (· < ·) (Prod.Lex WTr.Below (Prod.Lex WTr.Below (· < ·))))
theorem ltP_wf:WellFounded LtP:=(Prod.lex Nat.lt_wfRel (Prod.lex Nat.lt_wfRel (Prod.lex ⟨WTr.Below,WTr.wf⟩ (Prod.lex ⟨WTr.Below,WTr.wf⟩ Nat.lt_wfRel)))).wf
def PDone:Prop:=∃ (J:Nat) (gs:Array Goroutine) (a:Goroutine) (w:World) (sl:Option (Nat × Nat)) (T:Trace) (q:Nat → Nat),RunM P m0 J (crowd gs w sl) T ∧ gs.size = c + 1 ∧ gs[0]? = some a ∧ Leavers P T gs q ∧
 Past (fun l=>Sh l ∨ OfWg Wg l) w.heap.size T ∧ Next a w ∧ Pay w
def PInv (μ:Nat × Nat × WTr × WTr × Nat):Prop:=
 ∃ (J:Nat) (gs:Array Goroutine) (a b:Goroutine) (w:World) (sl:Option (Nat × Nat)) (T:Trace) (q:Nat → Nat) (S k qw:Nat) (t1 t0:WTr),RunM P m0 J (crowd gs w sl) T ∧ gs.size = c + 1 ∧ gs[0]? = some a ∧ gs[c]? = some b ∧
  LB P (fun i=>i = c) T gs q ∧ Sit P ty Sh Wg Keep Pay Next Anch Low c S t1 t0 k qw a b w T ∧ μ = (S,sumTo gs.size q + qw,t1,t0,k)
end
section
variable {P:Program} {m0:Machine} {ty:TypeId} {Sh:Loc → Prop} {Wg:Nat} {Keep:Nat → Prop} {Pay:World → Prop} {Next Anch:Goroutine → World → Prop} {Low c:Nat}
theorem phase_runs (A:Apt Sh Wg Keep c) (hLow:Wg < Low) (hPay:∀ w w',Aside Wg w w' → Pay w → Pay w') (hAr:∀ g w,Anch g w → g.status = .running)
 (hAn:∀ g w,Anch g w → WM P ty Wg Keep (MW1 P ty Wg Keep Pay Next Anch) g w) :
 ∀ μ,PInv P m0 ty Sh Wg Keep Pay Next Anch Low c μ → PDone P m0 Sh Wg Pay Next c:=by
 intro μ
 induction μ using ltP_wf.induction with
 | _ μ ih=>
  rintro ⟨J,gs,a,b,w,sl,T,q,S,k,qw,t1,t0,hR,hsz,h0,hc,hL,hS,rfl⟩
  obtain ⟨awa,awb,hrun⟩:=hS.awake hAr
  have haw:∀ g ∈ gs,Conc.awake g:=by
   intro g hg
   obtain ⟨i,hi,rfl⟩:=Array.mem_iff_getElem.1 hg
   have hgi:gs[i]? = some gs[i]:=Array.getElem?_eq_getElem hi
   by_cases e0:i = 0
   ·subst e0;rw [h0] at hgi;rw [← Option.some.inj hgi];exact awa
   ·by_cases e1:i = c
    ·subst e1;rw [hc] at hgi;rw [← Option.some.inj hgi];exact awb
    ·exact awake_of ((hL.old i _ (by omega) e1 hgi).status.elim .inl fun x=>.inr (.inr x))
  obtain ⟨i,x,dd,sl',hi,hx,hst⟩:=crowd_pick (P:=P) (w:=w) (sl:=sl) haw (hrun.elim (fun y=>⟨0,a,h0,y⟩) (fun y=>⟨c,b,hc,y⟩))
  have hS':=hS.at hPay dd
  have hc0:=A.c0
  by_cases e0:i = 0
  ·subst e0
   obtain rfl:x = a:=by rw [h0] at hi;exact (Option.some.inj hi).symm
   obtain ⟨a',w',es,hgo,hle,hout⟩:=hS'.main A hLow hPay hAn hx
   have hrunT:=runT_crowd_go (P:=P) (sl:=sl') (i:=0) hi (show stepG P (0 == 0) x (w.at dd) = _ from hgo)
   have hR':=hR.step (hst.trans hrunT) hle
   have hlt0:=(Array.getElem?_eq_some_iff.1 h0).1
   have hL':=hL.own (k:=0) (.inl rfl) hlt0 (a:=x) (a':=a') (w':=w') x.frame.fn x.frame.place es
   have hwb:woken P x a' w' b = b:=by
    rcases hS' with ⟨hk,_⟩ | ⟨hk,_⟩ | ⟨hk,_⟩ | ⟨hk,_⟩ | ⟨hk,_⟩ | ⟨hk,_⟩
    ·exact woken_run hk.running
    ·exact woken_run hk.running
    ·exact woken_quitsD hk
    ·exact woken_run hk.running
    ·exact woken_quitsD hk
    ·exact woken_quitsD hk
   have hc':((gs.map (woken P x a' w')).setIfInBounds 0 a')[c]? = some b:=by rw [get_set_other (Ne.symm hc0),hc,Option.map_some,hwb]
   rcases hout with ⟨S',t0',k',hS'',hless⟩ | ⟨rfl,rfl,hN,hP,d1,hq,hPT⟩
   ·refine ih (S',sumTo gs.size q + qw,t1,t0',k') ?_ ⟨J + 1,_,a',b,w',sl',_,q,S',k',qw,t1,t0',hR',by simpa using hsz,get_set_same h0,hc',hL',hS'',by simp⟩
    rcases hless with h | ⟨rfl,h | ⟨rfl,h⟩⟩
    ·exact .left _ _ h
    ·exact .right _ (.right _ (.right _ (.left _ _ h)))
    ·exact .right _ (.right _ (.right _ (.right _ h)))
   ·refine ⟨J + 1,_,a',_,sl',_,upd q c qw,hR',by simpa using hsz,get_set_same h0,⟨fun j g hj hg=>?_,hL'.above⟩,hPT.acquire A (by cases hS' <;> exact wg_lt ‹WgAt _ _ _ _ _›),hN,hP⟩
    by_cases hjc:j = c
    ·subst hjc
     rw [hc'] at hg
     obtain rfl:=Option.some.inj hg
     rw [upd_same,Deaf_other T (g':=0) (Ne.symm hc0) _ ofEvents_g,hPT.deaf1]
     exact hq
    ·rw [upd_ne q qw hjc]
     exact hL'.old j g hj hjc hg
  by_cases e1:i = c
  ·subst e1
   obtain rfl:x = b:=by rw [hc] at hi;exact (Option.some.inj hi).symm
   obtain ⟨b',w',es,hgo,hle,S',t1',t0',k',q',hS'',hless⟩:=hS'.worker A hLow hPay hAr hx
   have hi0:(i == 0) = false:=by simp [e0]
   have hrunT:=runT_crowd_go (P:=P) (sl:=sl') (i:=i) hi (by rw [hi0];exact hgo)
   have hR':=hR.step (hst.trans hrunT) hle
   have hltc:=(Array.getElem?_eq_some_iff.1 hc).1
   have hL':=hL.own (k:=i) (.inr rfl) hltc (a:=x) (a':=b') (w':=w') x.frame.fn x.frame.place es
   refine ih (S',sumTo gs.size q + q',t1',t0',k') ?_ ⟨J + 1,_,woken P x b' w' a,b',w',sl',_,q,S',k',q',t1',t0',hR',by simpa using hsz,by rw [get_set_other e0,h0];rfl,get_set_same hc,hL',hS'',by simp⟩
   rcases hless with h | ⟨rfl,h⟩ | ⟨rfl,rfl,h⟩
   ·exact .left _ _ h
   ·exact .right _ (.left _ _ (by omega))
   ·exact .right _ (.right _ (.left _ _ h))
  ·obtain ⟨g',es,kk,hm,hstp,hq,hL'⟩:=hL.slip (i:=i) (by omega) e1 hi hx
   have hi0:(i == 0) = false:=by simp [e0]
   have hrunT:=runT_crowd_go (P:=P) (sl:=sl') (i:=i) hi (by rw [hi0];exact hstp (w.at dd))
   have hR':=hR.step (hst.trans hrunT) (Nat.le_refl _)
   obtain ⟨t0',k',hS''⟩:=hS'.leaver A hAr x g' (i:=i) e0 e1 (fn:=x.frame.fn) (pos:=x.frame.place) hm
   refine ih (S,sumTo gs.size (upd q i kk) + qw,t1,t0',k') (.right _ (.left _ _ ?_)) ⟨J + 1,_,woken P x g' (w.at dd) a,woken P x g' (w.at dd) b,w.at dd,sl',_,upd q i kk,S,k',qw,t1,t0',hR',by simpa using hsz,by rw [get_set_other e0,h0];rfl,
    by rw [get_set_other e1,hc];rfl,hL' _ _ _,hS'',by simp⟩
   have:=sum_slip (q:=q) (Array.getElem?_eq_some_iff.1 hi).1 hq
   omega
end
end
end Go.Eng

/- An interpreter of the model's code over abstract values, proved sound, part 1. No condition. -/
import Derived.Orders
import Derived.CheckFast
import Derived.IntWalk
import Derived.Below
import Derived.Laws.CopyRow
import Derived.Laws.Append
import Derived.Laws.MakeOwn
/- The engine's definitions: an executable interpreter of the model's code over abstract values and an abstract heap. -/
namespace Go.Eng

/-- A whole number: known to the interpreter, or not. -/
inductive Z where
  | c (n : Int)
  | s (n : Int)
def Z.v : Z → Int
  | .c n => n
  | .s n => n
inductive B where
  | c (b : Bool)
  | s (b : Bool)
def B.v : B → Bool
  | .c b => b
  | .s b => b
inductive N where
  | c (n : Nat)
  | s (n : Nat)
def N.v : N → Nat
  | .c n => n
  | .s n => n

inductive Num where
  | int (k : IntKind) (z : Z)
  | w8 (x : BitVec 8)
  | w16 (x : BitVec 16)
  | w32 (x : BitVec 32)
  | w64 (x : BitVec 64)
inductive Ref where
  | ptr (b : Nat) (o : N)
  | gp (g : Nat) (o : N)
  | sl (b : Nat) (o l : N) (cap : Option N)
  | gs (g : Nat) (o l : N)
  /-- elements of more cells, from the block's beginning on: how many, and how many cells each has -/
  | sm (b : Nat) (l : N) (s : Nat)
inductive Atom where
  | undef
  | bool (b : B)
  | str (s : ByteArray)
  | nilp
  | nils
  | nili
  | nilf
  /-- just this value -/
  | exact (v : Value)
inductive Tag where
  | tup
  | ifc (t : Nat)
  | fn (f : Fn) (first : Nat)
inductive AV where
  | num (n : Num)
  | ref (r : Ref)
  | atom (a : Atom)
  | agg (xs : List AV)
  | obj (t : Tag) (xs : List AV)
abbrev AV.undef : AV := .atom .undef
abbrev AV.bool (b : B) : AV := .atom (.bool b)
abbrev AV.int (k : IntKind) (z : Z) : AV := .num (.int k z)
abbrev AV.w8 (x : BitVec 8) : AV := .num (.w8 x)
abbrev AV.w16 (x : BitVec 16) : AV := .num (.w16 x)
abbrev AV.w32 (x : BitVec 32) : AV := .num (.w32 x)
abbrev AV.w64 (x : BitVec 64) : AV := .num (.w64 x)
abbrev AV.str (s : ByteArray) : AV := .atom (.str s)
abbrev AV.ptr (b : Nat) (o : N) : AV := .ref (.ptr b o)
abbrev AV.gp (g : Nat) (o : N) : AV := .ref (.gp g o)
abbrev AV.gs (g : Nat) (o l : N) : AV := .ref (.gs g o l)
abbrev AV.sm (b : Nat) (l : N) (s : Nat) : AV := .ref (.sm b l s)
abbrev AV.sl (b : Nat) (o l : N) (cap : Option N) : AV := .ref (.sl b o l cap)
abbrev AV.nilp : AV := .atom .nilp
abbrev AV.nils : AV := .atom .nils
abbrev AV.nili : AV := .atom .nili
abbrev AV.nilf : AV := .atom .nilf
abbrev AV.exact (v : Value) : AV := .atom (.exact v)
abbrev AV.tup (xs : List AV) : AV := .obj .tup xs
abbrev AV.ifc (t : Nat) (v : AV) : AV := .obj (.ifc t) [v]
abbrev AV.fn (f : Fn) (first captured : List AV) : AV := .obj (.fn f first.length) (first ++ captured)

/-- A row of words, its length besides. -/
structure Vec (w : Nat) where
  n : Nat
  l : List (BitVec w)
  h : l.length = n
def Vec.of {w : Nat} (l : List (BitVec w)) : Vec w := ⟨l.length, l, rfl⟩
def Vec.set {w : Nat} (v : Vec w) (o : Nat) (x : BitVec w) : Vec w := ⟨v.n, v.l.set o x, by rw [List.length_set]; exact v.h⟩
def Vec.app {w : Nat} (v u : Vec w) : Vec w := ⟨v.n + u.n, v.l ++ u.l, by rw [List.length_append, v.h, u.h]⟩
def Vec.sub {w : Nat} (v : Vec w) (o m : Nat) : Vec w := ⟨m, (v.l.drop o ++ List.replicate m 0).take m, by simp⟩
theorem Vec.sub_l {w : Nat} {v : Vec w} {o m : Nat} (h : o + m ≤ v.n) : (v.sub o m).l = (v.l.drop o).take m := by
  have := v.h
  show (v.l.drop o ++ List.replicate m 0).take m = _
  rw [List.take_append_of_le_length (by rw [List.length_drop]; omega)]
def setL {α : Type} : List α → Nat → List α → List α
  | l, _, [] => l
  | l, o, x :: xs => setL (l.set o x) (o + 1) xs
theorem setL_len {α : Type} : ∀ (xs l : List α) (o : Nat), (setL l o xs).length = l.length
  | [], _, _ => rfl
  | x :: xs, l, o => by rw [setL, setL_len xs, List.length_set]
def Vec.over {w : Nat} (v : Vec w) (o : Nat) (u : Vec w) : Vec w := ⟨v.n, setL v.l o u.l, by rw [setL_len]; exact v.h⟩
def Vec.zero (w n : Nat) : Vec w := ⟨n, List.replicate n 0, by simp⟩
inductive Data where
  | gen (l : List AV)
  | b8 (l : Vec 8)
  | b32 (l : Vec 32)
  | b64 (l : Vec 64)
  /-- So many cells, of which one is known. -/
  | spot (n K : Nat) (x : AV)
  /-- Just these values, and others behind them. -/
  | kn (l : List Value) (t : List AV)
inductive Mode where
  | ro | own | dead
structure Blk where
  data : Data
  mode : Mode

structure St where
  H : List Blk
  low : Nat
  dec : List Bool
  cond : List Bool

def St.demand (S : St) (b : Bool) : St := { S with cond := b :: S.cond }

/-! Numbers, by tests that the kernel finds fast. -/
def intLe : Int → Int → Bool
  | .ofNat a, .ofNat b => Nat.ble a b
  | .ofNat _, .negSucc _ => false
  | .negSucc _, .ofNat _ => true
  | .negSucc a, .negSucc b => Nat.ble b a
def intEq : Int → Int → Bool
  | .ofNat a, .ofNat b => Nat.beq a b
  | .ofNat _, .negSucc _ => false
  | .negSucc _, .ofNat _ => false
  | .negSucc a, .negSucc b => Nat.beq b a
def intLt (a b : Int) : Bool := intLe (a + 1) b
def kindEq : IntKind → IntKind → Bool
  | .i8, .i8 | .i16, .i16 | .i32, .i32 | .i64, .i64 | .u8, .u8 | .u16, .u16 | .u32, .u32 | .u64, .u64 => true
  | _, _ => false
def lo : IntKind → Int
  | .i8 => -128
  | .i16 => -32768
  | .i32 => -2147483648
  | .i64 => -9223372036854775808
  | _ => 0
def hi : IntKind → Int
  | .i8 => 127
  | .i16 => 32767
  | .i32 => 2147483647
  | .i64 => 9223372036854775807
  | .u8 => 255
  | .u16 => 65535
  | .u32 => 4294967295
  | .u64 => 18446744073709551615
def wrapF (k : IntKind) (n : Int) : Int :=
  match intLe (lo k) n with
  | true =>
    match intLe n (hi k) with
    | true => n
    | false => k.wrap n
  | false => k.wrap n

/-- A test whose answer is not known: the next decision says it; what it owes is kept. -/
def B.test (b : B) (S : St) : Option (Bool × St) :=
  match b with
  | .c b => some (b, S)
  | .s b =>
    match S.dec with
    | d :: r => some (d, { S with dec := r, cond := (b == d) :: S.cond })
    | [] => none
/-- Claimed: a known answer is looked at, another is owed. -/
def B.claim (b : B) (S : St) : Option St :=
  match b with
  | .c b =>
    match b with
    | true => some S
    | false => none
  | .s b => some (S.demand b)
def B.and (x y : B) : B :=
  match x with
  | .c a =>
    match y with
    | .c b => .c (a && b)
    | .s b => .s (a && b)
  | .s a => .s (a && y.v)
def B.not : B → B
  | .c b => .c !b
  | .s b => .s !b
def Z.lt (x y : Z) : B :=
  match x with
  | .c a =>
    match y with
    | .c b => .c (intLt a b)
    | .s b => .s (decide (a < b))
  | .s a => .s (decide (a < y.v))
def Z.le (x y : Z) : B :=
  match x with
  | .c a =>
    match y with
    | .c b => .c (intLe a b)
    | .s b => .s (decide (a ≤ b))
  | .s a => .s (decide (a ≤ y.v))
def Z.eq (x y : Z) : B :=
  match x with
  | .c a =>
    match y with
    | .c b => .c (intEq a b)
    | .s b => .s (a == b)
  | .s a => .s (a == y.v)
def N.le (x y : N) : B :=
  match x with
  | .c a =>
    match y with
    | .c b => .c (Nat.ble a b)
    | .s b => .s (decide (a ≤ b))
  | .s a => .s (decide (a ≤ y.v))
def N.eq (x y : N) : B :=
  match x with
  | .c a =>
    match y with
    | .c b => .c (Nat.beq a b)
    | .s b => .s (a == b)
  | .s a => .s (a == y.v)
def N.toZ : N → Z
  | .c n => .c n
  | .s n => .s n
def Z.toN : Z → N
  | .c n => .c n.toNat
  | .s n => .s n.toNat
def N.map2 (f : Nat → Nat → Nat) (x y : N) : N :=
  match x with
  | .c a =>
    match y with
    | .c b => .c (f a b)
    | .s b => .s (f a b)
  | .s a => .s (f a y.v)
def N.add (a b : N) : N := N.map2 Nat.add a b
def N.sub (a b : N) : N := N.map2 Nat.sub a b
def N.min (a b : N) : N := N.map2 Nat.min a b
def N.mulc (a : N) (n : Nat) : N :=
  match a with
  | .c x => .c (x * n)
  | .s x => .s (x * n)

/-- A known number of a kind, as a word. -/
def bvOf (n : Nat) (k k' : IntKind) (x : Int) : Option (BitVec n) :=
  match kindEq k k' with
  | false => none
  | true =>
    match x with
    | .ofNat x =>
      match Nat.blt x (2 ^ n) with
      | true => some (BitVec.ofNat n x)
      | false => none
    | .negSucc _ => none
def Num.bv8 (v : Num) : Option (BitVec 8) :=
  match v with
  | .w8 x => some x
  | .int k z =>
    match z with
    | .c x => bvOf 8 .u8 k x
    | .s _ => none
  | _ => none
def AV.bv8 (v : AV) : Option (BitVec 8) :=
  match v with
  | .num n => n.bv8
  | _ => none
def Num.bv16 (v : Num) : Option (BitVec 16) :=
  match v with
  | .w16 x => some x
  | .int k z =>
    match z with
    | .c x => bvOf 16 .u16 k x
    | .s _ => none
  | _ => none
def AV.bv16 (v : AV) : Option (BitVec 16) :=
  match v with
  | .num n => n.bv16
  | _ => none
def Num.bv32 (v : Num) : Option (BitVec 32) :=
  match v with
  | .w32 x => some x
  | .int k z =>
    match z with
    | .c x => bvOf 32 .u32 k x
    | .s _ => none
  | _ => none
def AV.bv32 (v : AV) : Option (BitVec 32) :=
  match v with
  | .num n => n.bv32
  | _ => none
def Num.bv64 (v : Num) : Option (BitVec 64) :=
  match v with
  | .w64 x => some x
  | .int k z =>
    match z with
    | .c x => bvOf 64 .u64 k x
    | .s _ => none
  | _ => none
def AV.bv64 (v : AV) : Option (BitVec 64) :=
  match v with
  | .num n => n.bv64
  | _ => none
/-- The number in a value, known or not. -/
def Num.z (v : Num) : Z :=
  match v with
  | .int _ z => z
  | .w8 x => .s x.toNat
  | .w16 x => .s x.toNat
  | .w32 x => .s x.toNat
  | .w64 x => .s x.toNat
def AV.nm (v : AV) : Option Z :=
  match v with
  | .num n => some n.z
  | _ => none

/-- A constant as the interpreter sees it. -/
def absV : Value → AV
  | .bool b => .bool (.c b)
  | .int k n => .int k (.c n)
  | .string s => .str s
  | .pointer none => .nilp
  | .slice none 0 0 => .nils
  | .nilIface => .nili
  | .nilFunc => .nilf
  | .agg ⟨l⟩ => .agg (absL l)
  | .tuple ⟨l⟩ => .tup (absL l)
  | _ => .undef
where absL : List Value → List AV
  | [] => []
  | v :: r => absV v :: absL r

def cmpZ (op : BinOp) : Option (Z → Z → B) :=
  match op with
  | .eql => some fun a b => a.eq b
  | .neq => some fun a b => (a.eq b).not
  | .lss => some fun a b => a.lt b
  | .leq => some fun a b => a.le b
  | .gtr => some fun a b => b.lt a
  | .geq => some fun a b => b.le a
  | _ => none

/-- What an operation makes of two words. -/
inductive WOp where
  | word (f : (n : Nat) → BitVec n → BitVec n → BitVec n)
  | div (f : (n : Nat) → BitVec n → BitVec n → BitVec n)
  | test (f : (n : Nat) → BitVec n → BitVec n → Bool)
  | no
def wOp (op : BinOp) : WOp :=
  match op with
  | .add => .word fun _ x y => x + y
  | .sub => .word fun _ x y => x - y
  | .mul => .word fun _ x y => x * y
  | .quo => .div fun _ x y => x / y
  | .rem => .div fun _ x y => x % y
  | .and => .word fun _ x y => x &&& y
  | .or => .word fun _ x y => x ||| y
  | .xor => .word fun _ x y => x ^^^ y
  | .andNot => .word fun _ x y => x &&& ~~~y
  | .eql => .test fun _ x y => x == y
  | .neq => .test fun _ x y => x != y
  | .lss => .test fun _ x y => decide (x.toNat < y.toNat)
  | .leq => .test fun _ x y => decide (x.toNat ≤ y.toNat)
  | .gtr => .test fun _ x y => decide (y.toNat < x.toNat)
  | .geq => .test fun _ x y => decide (y.toNat ≤ x.toNat)
  | _ => .no
def bvOp (op : BinOp) (n : Nat) (mk : BitVec n → AV) (x y : BitVec n) (S : St) : Option (AV × St) :=
  match wOp op with
  | .word f => some (mk (f n x y), S)
  | .div f => some (mk (f n x y), S.demand (y != 0))
  | .test f => some (.bool (.s (f n x y)), S)
  | .no => none
def bvBin {n : Nat} (mk : BitVec n → AV) (op : BinOp) (x y : Option (BitVec n)) (S : St) : Option (AV × St) :=
  match x with
  | none => none
  | some x =>
    match y with
    | none => none
    | some y => bvOp op n mk x y S
def wSh (op : BinOp) : Option ((n : Nat) → BitVec n → Nat → BitVec n) :=
  match op with
  | .shl => some fun _ x s => x <<< s
  | .shr => some fun _ x s => x >>> s
  | _ => none
def bvSh (op : BinOp) (n : Nat) (mk : BitVec n → AV) (x : BitVec n) (s : Nat) (S : St) : Option (AV × St) :=
  match wSh op with
  | some f => some (mk (f n x s), S)
  | none => none
def bvShift {n : Nat} (mk : BitVec n → AV) (op : BinOp) (x : BitVec n) (s : Z) (S : St) : Option (AV × St) :=
  match ((Z.c 0).le s).claim S with
  | none => none
  | some S => bvSh op n mk x s.v.toNat S

/-- Two known numbers that are not below zero, bit by bit, where the kind bears the outcome. -/
def bitsF (k : IntKind) (slow : Unit → Int) (f : Nat → Nat → Nat) (a b : Int) : Int :=
  match a with
  | .ofNat x =>
    match b with
    | .ofNat y =>
      match intLe a (hi k) with
      | true =>
        match intLe b (hi k) with
        | true => .ofNat (f x y)
        | false => slow ()
      | false => slow ()
    | .negSucc _ => slow ()
  | .negSucc _ => slow ()
/-- Sums of known numbers, by the kind's own wrapping. -/
def arithC (op : BinOp) : Option (IntKind → Int → Int → Option Z) :=
  match op with
  | .add => some fun k a b => some (.c (wrapF k (a + b)))
  | .sub => some fun k a b => some (.c (wrapF k (a - b)))
  | .mul => some fun k a b => some (.c (wrapF k (a * b)))
  | .quo => some fun k a b => match intEq b 0 with | true => none | false => some (.c (wrapF k (a.tdiv b)))
  | .rem => some fun _ a b => match intEq b 0 with | true => none | false => some (.c (a.tmod b))
  | .and => some fun k a b => some (.c (bitsF k (fun _ => k.wrap (BitVec.ofInt k.bits a &&& BitVec.ofInt k.bits b).toNat) Nat.land a b))
  | .or => some fun k a b => some (.c (bitsF k (fun _ => k.wrap (BitVec.ofInt k.bits a ||| BitVec.ofInt k.bits b).toNat) Nat.lor a b))
  | .xor => some fun k a b => some (.c (bitsF k (fun _ => k.wrap (BitVec.ofInt k.bits a ^^^ BitVec.ofInt k.bits b).toNat) Nat.xor a b))
  | .andNot => some fun k a b => some (.c (k.wrap (BitVec.ofInt k.bits a &&& ~~~ BitVec.ofInt k.bits b).toNat))
  | _ => none
/-- Both numbers' bits. -/
def andV (k : IntKind) (a b : Int) : Int := k.wrap (BitVec.ofInt k.bits a &&& BitVec.ofInt k.bits b).toNat
def orV (k : IntKind) (a b : Int) : Int := k.wrap (BitVec.ofInt k.bits a ||| BitVec.ofInt k.bits b).toNat
def shlV (k : IntKind) (a : Int) (n : Nat) : Int := k.wrap (a * 2 ^ n)
/-- Of sums of others it is owed that they fit. -/
def arithS (op : BinOp) : Option (IntKind → Int → Int → St → AV × St) :=
  match op with
  | .add => some fun k a b S => (.int k (.s (a + b)), S.demand (decide (lo k ≤ a + b ∧ a + b ≤ hi k)))
  | .sub => some fun k a b S => (.int k (.s (a - b)), S.demand (decide (lo k ≤ a - b ∧ a - b ≤ hi k)))
  | .mul => some fun k a b S => (.int k (.s (a * b)), S.demand (decide (lo k ≤ a * b ∧ a * b ≤ hi k)))
  | .quo => some fun k a b S => (.int k (.s (a.tdiv b)), S.demand (decide (0 ≤ a ∧ 0 < b ∧ a ≤ hi k)))
  | .rem => some fun k a b S => (.int k (.s (a.tmod b)), S.demand (decide (b ≠ 0)))
  | .and => some fun k a b S => (.int k (.s (andV k a b)), S.demand (decide (0 ≤ b)))
  | .or => some fun k a b S => (.int k (.s (orV k a b)), S.demand (decide (lo k ≤ 0)))
  | .xor => some fun k a b S => (.int k (.s ((a.toNat ^^^ b.toNat : Nat))), S.demand (decide (0 ≤ a ∧ 0 ≤ b ∧ a ≤ hi k ∧ b ≤ hi k)))
  | _ => none
def arithSE (op : BinOp) (k : IntKind) (a b : Int) (S : St) : Option (AV × St) :=
  match arithS op with
  | some f => some (f k a b S)
  | none => none
def intArith (op : BinOp) (k : IntKind) (x y : Z) (S : St) : Option (AV × St) :=
  match cmpZ op with
  | some f => some (.bool (f x y), S)
  | none =>
    match x with
    | .c a =>
      match y with
      | .c b =>
        match arithC op with
        | some f =>
          match f k a b with
          | some z => some (.int k z, S)
          | none => none
        | none => none
      | .s b => arithSE op k a b S
    | .s a =>
      match y with
      | .c b => arithSE op k a b S
      | .s b => arithSE op k a b S
def shiftC (op : BinOp) (k : IntKind) (a : Int) (n : Nat) : Option Int :=
  match op with
  | .shl =>
    match a with
    | .ofNat x => some (wrapF k (.ofNat (Nat.shiftLeft x (Nat.min n k.bits))))
    | a => some (k.wrap (a * 2 ^ (Nat.min n k.bits)))
  | .shr =>
    match a with
    | .ofNat x => some (.ofNat (Nat.shiftRight x (Nat.min n k.bits)))
    | a => some (a.fdiv (2 ^ (Nat.min n k.bits)))
  | _ => none
def shiftI (k : IntKind) (z : Z) (op : BinOp) (s : Z) (S : St) : Option (AV × St) :=
  match s with
  | .s _ => none
  | .c b =>
    match intLe 0 b with
    | false => none
    | true =>
      match z with
      | .c a =>
        match shiftC op k a b.toNat with
        | some r => some (.int k (.c r), S)
        | none => none
      | .s a =>
        match Nat.blt b.toNat k.bits with
        | false => none
        | true =>
          match op with
          | .shl => some (.int k (.s (shlV k a b.toNat)), S)
          | .shr => some (.int k (.s (a / 2 ^ b.toNat)), S)
          | _ => none
def shiftOp (x : Num) (op : BinOp) (s : Z) (S : St) : Option (AV × St) :=
  match x with
  | .int k z => shiftI k z op s S
  | .w8 x => bvShift .w8 op x s S
  | .w16 x => bvShift .w16 op x s S
  | .w32 x => bvShift .w32 op x s S
  | .w64 x => bvShift .w64 op x s S

def isShift : BinOp → Bool
  | .shl | .shr => true
  | _ => false
def intOp (k : IntKind) (a : Z) (y : Num) (op : BinOp) (S : St) : Option (AV × St) :=
  match y with
  | .int k' b =>
    match kindEq k k' with
    | true => intArith op k a b S
    | false => none
  | .w8 y => bvBin .w8 op (Num.int k a).bv8 (some y) S
  | .w16 y => bvBin .w16 op (Num.int k a).bv16 (some y) S
  | .w32 y => bvBin .w32 op (Num.int k a).bv32 (some y) S
  | .w64 y => bvBin .w64 op (Num.int k a).bv64 (some y) S
def numOp (x y : Num) (op : BinOp) (S : St) : Option (AV × St) :=
  match x with
  | .int k a => intOp k a y op S
  | .w8 x => bvBin .w8 op (some x) y.bv8 S
  | .w16 x => bvBin .w16 op (some x) y.bv16 S
  | .w32 x => bvBin .w32 op (some x) y.bv32 S
  | .w64 x => bvBin .w64 op (some x) y.bv64 S
def binop (op : BinOp) (x y : AV) (S : St) : Option (AV × St) :=
  match x with
  | .num x =>
    match y with
    | .num y =>
      match isShift op with
      | true => shiftOp x op y.z S
      | false => numOp x y op S
    | _ => none
  | _ => none

/-- A number turned to another kind. -/
def convW (k : IntKind) (n : Nat) (a b c d : AV) (S : St) : Option (AV × St) :=
  match k with
  | .u8 => some (a, S)
  | .u16 => some (b, S)
  | .u32 => some (c, S)
  | .u64 => some (d, S)
  | k => some (.int k (.s n), S.demand (decide ((n : Int) ≤ hi k)))
def convI (n : Int) (k : IntKind) (S : St) : Option (AV × St) :=
  match k with
  | .u8 => some (.w8 (BitVec.ofInt 8 n), S)
  | .u16 => some (.w16 (BitVec.ofInt 16 n), S)
  | .u32 => some (.w32 (BitVec.ofInt 32 n), S)
  | .u64 => some (.w64 (BitVec.ofInt 64 n), S)
  | k => some (.int k (.s n), S.demand (decide (lo k ≤ n ∧ n ≤ hi k)))
def convN (v : Num) (k : IntKind) (S : St) : Option (AV × St) :=
  match v with
  | .int _ z =>
    match z with
    | .c n => some (.int k (.c (wrapF k n)), S)
    | .s n => convI n k S
  | .w8 x => convW k x.toNat (.w8 x) (.w16 (x.setWidth 16)) (.w32 (x.setWidth 32)) (.w64 (x.setWidth 64)) S
  | .w16 x => convW k x.toNat (.w8 (x.setWidth 8)) (.w16 x) (.w32 (x.setWidth 32)) (.w64 (x.setWidth 64)) S
  | .w32 x => convW k x.toNat (.w8 (x.setWidth 8)) (.w16 (x.setWidth 16)) (.w32 x) (.w64 (x.setWidth 64)) S
  | .w64 x => convW k x.toNat (.w8 (x.setWidth 8)) (.w16 (x.setWidth 16)) (.w32 (x.setWidth 32)) (.w64 x) S
def convNum (v : AV) (k : IntKind) (S : St) : Option (AV × St) :=
  match v with
  | .num n => convN n k S
  | _ => none

def negN (x : Num) : Option AV :=
  match x with
  | .int k z =>
    match z with
    | .c n => some (.int k (.c (wrapF k (0 - n))))
    | .s _ => none
  | .w8 x => some (.w8 (0#8 - x))
  | .w16 x => some (.w16 (0#16 - x))
  | .w32 x => some (.w32 (0#32 - x))
  | .w64 x => some (.w64 (0#64 - x))
def comN (x : Num) : Option AV :=
  match x with
  | .int k z =>
    match z with
    | .c n => some (.int k (.c (k.wrap (BitVec.ofInt k.bits (if k.signed then -1 else k.max) ^^^ BitVec.ofInt k.bits n).toNat)))
    | .s _ => none
  | .w8 x => some (.w8 (~~~x))
  | .w16 x => some (.w16 (~~~x))
  | .w32 x => some (.w32 (~~~x))
  | .w64 x => some (.w64 (~~~x))
def unop (op : UnOp) (x : AV) : Option AV :=
  match x with
  | .num n =>
    match op with
    | .neg => negN n
    | .xor => comN n
    | _ => none
  | .atom a =>
    match a with
    | .bool b =>
      match op with
      | .not => some (.bool b.not)
      | _ => none
    | _ => none
  | _ => none

/-! Rows of cells. -/
def lget {α : Type} : Nat → List α → Option α
  | _, [] => none
  | 0, x :: _ => some x
  | n + 1, _ :: r => lget n r
def lset {α : Type} (v : α) : Nat → List α → List α
  | _, [] => []
  | 0, _ :: r => v :: r
  | n + 1, x :: r => x :: lset v n r
/-- Other cells put over those from a place on, if there are as many. -/
def lput {α : Type} (vs : List α) : Nat → List α → Option (List α)
  | 0, l =>
    match Nat.ble vs.length l.length with
    | true => some (vs ++ l.drop vs.length)
    | false => none
  | _ + 1, [] => none
  | n + 1, x :: r =>
    match lput vs n r with
    | some r => some (x :: r)
    | none => none
/-- So many cells from a place on, if there are as many. -/
def lsub {α : Type} (n : Nat) : Nat → List α → Option (List α)
  | 0, l =>
    match Nat.ble n l.length with
    | true => some (l.take n)
    | false => none
  | _ + 1, [] => none
  | o + 1, _ :: r => lsub n o r

def Data.len : Data → Nat
  | .gen l => l.length
  | .b8 l => l.n
  | .b32 l => l.n
  | .b64 l => l.n
  | .spot n _ _ => n
  | .kn l t => l.length + t.length
/-- The same, known where the cells are listed. -/
def Data.lenN : Data → N
  | .gen l => .c l.length
  | .b8 l => .s l.n
  | .b32 l => .s l.n
  | .b64 l => .s l.n
  | .spot n _ _ => .s n
  | .kn l t => .s (l.length + t.length)
def mapOpt {α β : Type} (f : α → Option β) : List α → Option (List β)
  | [] => some []
  | x :: r =>
    match f x with
    | none => none
    | some y =>
      match mapOpt f r with
      | none => none
      | some ys => some (y :: ys)
def Data.as8 : Data → Option (Vec 8)
  | .b8 l => some l
  | .gen l => (mapOpt AV.bv8 l).map Vec.of
  | _ => none
def Data.as32 : Data → Option (Vec 32)
  | .b32 l => some l
  | .gen l => (mapOpt AV.bv32 l).map Vec.of
  | _ => none
def Data.as64 : Data → Option (Vec 64)
  | .b64 l => some l
  | .gen l => (mapOpt AV.bv64 l).map Vec.of
  | _ => none
/-- One cell. -/
def Data.get0 (d : Data) (o : N) (S : St) : Option (AV × St) :=
  match d with
  | .gen l =>
    match o with
    | .c n => (lget n l).map (·, S)
    | .s _ => none
  | .b8 l => some (.w8 (l.l.getD o.v 0#8), S.demand (decide (o.v < l.n)))
  | .b32 l => some (.w32 (l.l.getD o.v 0#32), S.demand (decide (o.v < l.n)))
  | .b64 l => some (.w64 (l.l.getD o.v 0#64), S.demand (decide (o.v < l.n)))
  | .spot n K x => some (x, S.demand (decide (o.v = K ∧ K < n)))
  | .kn .. => none
def Data.set0 (d : Data) (o : N) (v : AV) (S : St) : Option (Data × St) :=
  match d with
  | .gen l =>
    match o with
    | .c n =>
      match Nat.blt n l.length with
      | true => some (.gen (lset v n l), S)
      | false => none
    | .s _ => none
  | .b8 l => v.bv8.map fun x => (.b8 (l.set o.v x), S.demand (decide (o.v < l.n)))
  | .b32 l => v.bv32.map fun x => (.b32 (l.set o.v x), S.demand (decide (o.v < l.n)))
  | .b64 l => v.bv64.map fun x => (.b64 (l.set o.v x), S.demand (decide (o.v < l.n)))
  | .spot .. => none
  | .kn .. => none
/-- So many cells from a place on. -/
def Data.sub0 (d : Data) (o n : N) (S : St) : Option (Data × St) :=
  match d with
  | .gen l =>
    match o with
    | .c o =>
      match n with
      | .c n => (lsub n o l).map fun l => (.gen l, S)
      | .s _ => none
    | .s _ => none
  | .b8 l => some (.b8 (l.sub o.v n.v), S.demand (decide (o.v + n.v ≤ l.n)))
  | .b32 l => some (.b32 (l.sub o.v n.v), S.demand (decide (o.v + n.v ≤ l.n)))
  | .b64 l => some (.b64 (l.sub o.v n.v), S.demand (decide (o.v + n.v ≤ l.n)))
  | .spot .. => none
  | .kn .. => none
def over {α : Type} (l : List α) (o : Nat) (xs : List α) : List α := l.take o ++ xs ++ l.drop (o + xs.length)
/-- Other cells put over those from a place on. -/
def Data.over0 (d : Data) (o : N) (x : Data) (S : St) : Option (Data × St) :=
  match d with
  | .gen l =>
    match o with
    | .c o =>
      match x with
      | .gen xs => (lput xs o l).map fun l => (.gen l, S)
      | _ => none
    | .s _ => none
  | .b8 l => x.as8.map fun xs => (.b8 (l.over o.v xs), S.demand (decide (o.v + xs.n ≤ l.n)))
  | .b32 l => x.as32.map fun xs => (.b32 (l.over o.v xs), S.demand (decide (o.v + xs.n ≤ l.n)))
  | .b64 l => x.as64.map fun xs => (.b64 (l.over o.v xs), S.demand (decide (o.v + xs.n ≤ l.n)))
  | .spot .. => none
  | .kn .. => none
/-- The cells as words, where they are words all. -/
def Data.words (d : Data) : Option Data :=
  match d with
  | .gen _ =>
    match d.as8 with
    | some v => some (.b8 v)
    | none =>
      match d.as32 with
      | some v => some (.b32 v)
      | none =>
        match d.as64 with
        | some v => some (.b64 v)
        | none => none
  | _ => none
/-! A row of bytes between other cells. -/
def skip8 : List AV → List AV × List AV
  | [] => ([], [])
  | x :: r =>
    match x.bv8 with
    | some _ => ([], x :: r)
    | none =>
      match skip8 r with
      | (a, b) => (x :: a, b)
def take8 : List AV → List (BitVec 8) × List AV
  | [] => ([], [])
  | x :: r =>
    match x.bv8 with
    | some w =>
      match take8 r with
      | (a, b) => (w :: a, b)
    | none => ([], x :: r)
structure Mid where
  pre : List AV
  row : Vec 8
  post : List AV
def Data.mid (d : Data) : Option Mid :=
  match d with
  | .gen l =>
    match skip8 l with
    | (pre, r) =>
      match take8 r with
      | (ws, post) => some ⟨pre, Vec.of ws, post⟩
  | _ => none
def cells8 (v : Vec 8) (n : Nat) : List AV := (List.range n).map fun i => .w8 (v.l.getD i 0#8)
def Mid.put (m : Mid) (v : Vec 8) : Data := .gen (m.pre ++ (cells8 v m.row.n ++ m.post))
def Mid.at (m : Mid) (o : N) (n : Nat) (S : St) : St := S.demand (decide (m.pre.length ≤ o.v ∧ o.v + n ≤ m.pre.length + m.row.n))
def Data.get1 (d : Data) (o : N) (S : St) : Option (AV × St) :=
  match d.mid with
  | some m => some (.w8 (m.row.l.getD (o.v - m.pre.length) 0#8), m.at o 1 S)
  | none => none
def Data.set1 (d : Data) (o : N) (v : AV) (S : St) : Option (Data × St) :=
  match d.mid with
  | some m =>
    match v.bv8 with
    | some x => some (m.put (m.row.set (o.v - m.pre.length) x), m.at o 1 S)
    | none => none
  | none => none
def Data.sub1 (d : Data) (o n : N) (S : St) : Option (Data × St) :=
  match d.mid with
  | some m => some (.b8 (m.row.sub (o.v - m.pre.length) n.v), m.at o n.v S)
  | none => none
def Data.over1 (d : Data) (o : N) (x : Data) (S : St) : Option (Data × St) :=
  match d.mid with
  | some m =>
    match x.as8 with
    | some xs => some (m.put (m.row.over (o.v - m.pre.length) xs), m.at o xs.n S)
    | none => none
  | none => none
def Data.get (d : Data) (o : N) (S : St) : Option (AV × St) :=
  match d.get0 o S with
  | some r => some r
  | none =>
    match d.words with
    | some d => d.get0 o S
    | none => d.get1 o S
def Data.set (d : Data) (o : N) (v : AV) (S : St) : Option (Data × St) :=
  match d.set0 o v S with
  | some r => some r
  | none =>
    match d.words with
    | some d => d.set0 o v S
    | none => d.set1 o v S
def Data.sub (d : Data) (o n : N) (S : St) : Option (Data × St) :=
  match d.sub0 o n S with
  | some r => some r
  | none =>
    match d.words with
    | some d => d.sub0 o n S
    | none => d.sub1 o n S
def Data.over (d : Data) (o : N) (x : Data) (S : St) : Option (Data × St) :=
  match d.over0 o x S with
  | some r => some r
  | none =>
    match d.words with
    | some d => d.over0 o x S
    | none => d.over1 o x S
/-- So many cells from a place on, as a value. -/
def Data.cells0 (d : Data) (n : Nat) (o : N) (S : St) : Option (List AV × St) :=
  match d with
  | .gen l =>
    match o with
    | .c o => (lsub n o l).map (·, S)
    | .s _ => none
  | .b8 v => some ((List.range n).map (fun i => .w8 (v.l.getD (o.v + i) 0#8)), S.demand (decide (o.v + n ≤ v.n)))
  | .b32 v => some ((List.range n).map (fun i => .w32 (v.l.getD (o.v + i) 0#32)), S.demand (decide (o.v + n ≤ v.n)))
  | .b64 v => some ((List.range n).map (fun i => .w64 (v.l.getD (o.v + i) 0#64)), S.demand (decide (o.v + n ≤ v.n)))
  | .spot .. => none
  | .kn .. => none
def Data.cells (d : Data) (n : Nat) (o : N) (S : St) : Option (List AV × St) :=
  match d.cells0 n o S with
  | some r => some r
  | none =>
    match d.words with
    | some d => d.cells0 n o S
    | none => none
def Data.app (d x : Data) : Option Data :=
  match d with
  | .gen l =>
    match x with
    | .gen xs => some (.gen (l ++ xs))
    | .b8 xs => (mapOpt AV.bv8 l).map fun l => .b8 ((Vec.of l).app xs)
    | .b32 xs => (mapOpt AV.bv32 l).map fun l => .b32 ((Vec.of l).app xs)
    | .b64 xs => (mapOpt AV.bv64 l).map fun l => .b64 ((Vec.of l).app xs)
    | .spot .. => none
    | .kn .. => none
  | .b8 l => x.as8.map fun xs => .b8 (l.app xs)
  | .b32 l => x.as32.map fun xs => .b32 (l.app xs)
  | .b64 l => x.as64.map fun xs => .b64 (l.app xs)
  | .spot .. => none
  | .kn l t =>
    match x with
    | .gen xs => some (.kn l (t ++ xs))
    | _ => none

def St.read (S : St) (b : Nat) : Option Data :=
  match lget b S.H with
  | some ⟨d, m⟩ =>
    match m with
    | .dead => none
    | _ => some d
  | none => none
/-- A block that may be written, with new cells (as many). -/
def St.write (S : St) (b : Nat) (d : Data) : Option St :=
  match lget b S.H with
  | some ⟨_, m⟩ =>
    match m with
    | .own => some { S with H := lset ⟨d, .own⟩ b S.H, low := Nat.min S.low b }
    | _ => none
  | none => none
def St.kill (S : St) (b : Nat) : St := { S with H := lset ⟨.gen [], .dead⟩ b S.H, low := Nat.min S.low b }
def St.new (S : St) (d : Data) : Nat × St := (S.H.length, { S with H := S.H ++ [⟨d, .own⟩] })

section
variable (P : Program)

def zeroOf (t : TypeId) : Option AV :=
  match P.info? t with
  | some i =>
    match i.zero with
    | some z => some (absV z)
    | none => none
  | none => none
def isAggT (t : TypeId) : Option Bool :=
  match P.underlying t with
  | some (.struct _) | some (.array _ _) => some true
  | some _ => some false
  | none => none
def sizeT (t : TypeId) : Option Nat :=
  match P.info? t with
  | some i => some i.size
  | none => none
def AV.single (v : AV) : Bool :=
  match v with
  | .num _ => true
  | .ref _ => true
  | .atom a =>
    match a with
    | .undef => false
    | .exact _ => false
    | _ => true
  | .agg _ => false
  | .obj t _ =>
    match t with
    | .tup => false
    | _ => true
/-- The cells of a value. -/
def AV.row (v : AV) : Option (List AV) :=
  match v with
  | .agg xs => some xs
  | v =>
    match v.single with
    | true => some [v]
    | false => none
def allSingle : List AV → Bool
  | [] => true
  | v :: r =>
    match v.single with
    | true => allSingle r
    | false => false
/-- The cells of a type's zero value. -/
def zeroRow (t : TypeId) : Option (List AV) :=
  match P.info? t with
  | some i =>
    match i.zero with
    | some z =>
      match (absV z).row with
      | some l =>
        match Nat.beq l.length i.size with
        | true => some l
        | false => none
      | none => none
    | none => none
  | none => none

/-- What an address leads to. -/
def readCell (glob : Nat → Option (List AV)) (a : AV) (S : St) : Option (AV × St) :=
  match a with
  | .ref (.ptr b o) =>
    match S.read b with
    | some d => d.get o S
    | none => none
  | .ref (.gp g o) =>
    match glob g with
    | some l => Data.get (.gen l) o S
    | none => none
  | _ => none
def readCells (glob : Nat → Option (List AV)) (a : AV) (n : Nat) (S : St) : Option (List AV × St) :=
  match a with
  | .ref (.ptr b o) =>
    match S.read b with
    | some d => d.cells n o S
    | none => none
  | .ref (.gp g o) =>
    match o with
    | .c o =>
      match n with
      | 0 => some ([], S)
      | n =>
        match glob g with
        | some l => (lsub n o l).map (·, S)
        | none => none
    | .s _ => none
  | _ => none
def loadOp (glob : Nat → Option (List AV)) (t : TypeId) (a : AV) (S : St) : Option (AV × St) :=
  match isAggT P t with
  | none => none
  | some true =>
    match sizeT P t with
    | some n =>
      match readCells glob a n S with
      | some (l, S) => some (.agg l, S)
      | none => none
    | none => none
  | some false => readCell glob a S
def storeOp (t : TypeId) (a v : AV) (S : St) : Option St :=
  match a with
  | .ref (.ptr b o) =>
    match S.read b with
    | none => none
    | some d =>
      match sizeT P t with
      | none => none
      | some n =>
        match v with
        | .agg xs =>
          match Nat.beq xs.length n && allSingle xs with
          | true =>
            match d.over o (.gen xs) S with
            | some (d, S) => S.write b d
            | none => none
          | false => none
        | v =>
          match v.single with
          | true =>
            match Nat.beq n 1 with
            | true =>
              match d.set o v S with
              | some (d, S) => S.write b d
              | none => none
            | false => none
          | false => none
  | _ => none

def elemT (t : TypeId) : Option (TypeId × Nat) :=
  match P.underlying t with
  | some (.slice e) => (sizeT P e).map (e, ·)
  | _ => none

def inRange (z : Z) (l : Z) : B := B.and ((Z.c 0).le z) (z.lt l)
def indexAddrOp (t : TypeId) (x i : AV) (S : St) : Option (AV × St) :=
  match i.nm with
  | none => none
  | some z =>
    match P.underlying t with
    | some (.array n e) =>
      match sizeT P e with
      | none => none
      | some s =>
        match (inRange z (.c n)).claim S with
        | none => none
        | some S =>
          match x with
          | .ref (.ptr b o) => some (.ptr b (o.add (z.toN.mulc s)), S)
          | .ref (.gp g o) => some (.gp g (o.add (z.toN.mulc s)), S)
          | _ => none
    | some (.slice e) =>
      match sizeT P e with
      | none => none
      | some s =>
        match x with
        | .ref (.sl b o l _) =>
          match (inRange z l.toZ).claim S with
          | some S => some (.ptr b (o.add (z.toN.mulc s)), S)
          | none => none
        | .ref (.gs g o l) =>
          match (inRange z l.toZ).claim S with
          | some S => some (.gp g (o.add (z.toN.mulc s)), S)
          | none => none
        | .ref (.sm b l s') =>
          match Nat.beq s' s with
          | true =>
            match (inRange z l.toZ).claim S with
            | some S => some (.ptr b ((N.c 0).add (z.toN.mulc s)), S)
            | none => none
          | false => none
        | _ => none
    | _ => none

def bound (v : Option AV) (dflt : N) : Option Z :=
  match v with
  | none => some dflt.toZ
  | some v => v.nm
def ordered (l h m : Z) : B := B.and (B.and ((Z.c 0).le l) (l.le h)) (h.le m)
def sliceArr (n s : Nat) (b : Nat) (o : N) (lo hi mx : Option AV) (S : St) : Option (AV × St) :=
  match bound lo (.c 0) with
  | none => none
  | some l =>
    match bound hi (.c n) with
    | none => none
    | some h =>
      match mx with
      | some _ => none
      | none =>
        match S.read b with
        | none => none
        | some d =>
          match ((o.add (.c (n * s))).le d.lenN).claim S with
          | none => none
          | some S =>
            match (ordered l h (.c n)).claim S with
            | some S => some (.sl b (o.add (l.toN.mulc s)) (h.toN.sub l.toN) (some ((N.c n).sub l.toN)), S)
            | none => none
def sliceSl (b : Nat) (o len : N) (cap : Option N) (lo hi mx : Option AV) (S : St) : Option (AV × St) :=
  match bound lo (.c 0) with
  | none => none
  | some l =>
    match bound hi len with
    | none => none
    | some h =>
      match cap with
      | none =>
        match mx with
        | some _ => none
        | none =>
          match (ordered l h len.toZ).claim S with
          | some S => some (.sl b (o.add l.toN) (h.toN.sub l.toN) none, S)
          | none => none
      | some c =>
        match mx with
        | none =>
          match (ordered l h c.toZ).claim S with
          | some S => some (.sl b (o.add l.toN) (h.toN.sub l.toN) (some (c.sub l.toN)), S)
          | none => none
        | some m =>
          match m.nm, hi with
          | none, _ => none
          | _, none => none
          | some m, some _ =>
            match (B.and (ordered l h m) (m.le c.toZ)).claim S with
            | some S => some (.sl b (o.add l.toN) (h.toN.sub l.toN) (some (m.toN.sub l.toN)), S)
            | none => none
def sliceOp (t : TypeId) (x : AV) (lo hi mx : Option AV) (S : St) : Option (AV × St) :=
  match P.underlying t with
  | some (.array n e) =>
    match x with
    | .ref (.ptr b o) =>
      match sizeT P e with
      | some 0 => none
      | some s => sliceArr n s b o lo hi mx S
      | none => none
    | _ => none
  | some (.slice e) =>
    match x with
    | .ref (.sl b o len cap) =>
      match sizeT P e with
      | some 1 => sliceSl b o len cap lo hi mx S
      | _ => none
    | .atom .nils =>
      match mx, sizeT P e with
      | some _, _ => none
      | none, none => none
      | none, some _ =>
        match bound lo (.c 0) with
        | none => none
        | some l =>
          match bound hi (.c 0) with
          | none => none
          | some h =>
            match (ordered l h (.c 0)).claim S with
            | some S => some (.nils, S)
            | none => none
    | _ => none
  | _ => none

def dataOf (x : AV) (n : N) (S : St) : Option (Data × St) :=
  match x with
  | .ref (.sl b o _ _) =>
    match S.read b with
    | some d => d.sub o n S
    | none => none
  | .atom .nils => some (.gen [], S)
  | .atom (.str s) =>
    match n with
    | .c n => some (.gen ((s.data.toList.take n).map fun b => .int .u8 (.c b.toNat)), S)
    | .s _ => none
  | _ => none
/-- Whether cells may be stored one by one. -/
def Data.singles (d : Data) : Bool :=
  match d with
  | .gen l => allSingle l
  | .spot .. => false
  | .kn .. => false
  | _ => true
def lenN (v : AV) : Option N :=
  match v with
  | .ref (.sl _ _ l _) => some l
  | .atom .nils => some (.c 0)
  | .atom (.str s) => some (.c s.size)
  | _ => none

/-- More cells behind those of a slice. -/
def appendSl (b : Nat) (o l : N) (cap : Option N) (n : N) (xs : Data) (S : St) : Option (AV × St) :=
  match cap with
  | some C =>
    match C, l, n with
    | .c C, .c l, .c n =>
      match S.read b with
      | none => none
      | some d =>
        match Nat.ble (l + n) C && Nat.ble 1 C with
        | true =>
          match d.over (o.add (.c l)) xs S with
          | some (d, S) =>
            match S.write b d with
            | some S => some (.sl b o (.c (l + n)) cap, S)
            | none => none
          | none => none
        | false =>
          match Nat.ble (l + n) C with
          | true => none
          | false =>
          match d.sub o (.c l) S with
          | some (d, S) =>
            match d.app xs with
            | some d => some (.sl S.H.length (.c 0) (.c (l + n)) none, (S.new d).2)
            | none => none
          | none => none
    | _, _, _ => none
  | none =>
    match lget b S.H with
    | some ⟨d, m⟩ =>
      match m with
      | .own =>
        match (B.and (o.eq (.c 0)) (l.eq (match l with | .c _ => .c d.len | .s _ => .s d.len))).claim S with
        | some S =>
          match d.app xs with
          | some d => some (.sl S.H.length (.c 0) (l.add n) none, ((S.kill b).new d).2)
          | none => none
        | none => none
      | _ => none
    | none => none
def N.fits (n : N) : B := n.le (.c 1099511627776)
def sliceOrString (d : Option TypeDesc) : Bool :=
  match d with
  | some (.slice _) => true
  | some .string => true
  | _ => false
def appendOp (argTypes : List TypeId) (args : List AV) (S : St) : Option (AV × St) :=
  match argTypes with
  | [t, u] =>
    match elemT P t with
    | some (e, 1) =>
      match P.info? e, zeroRow P e with
      | none, _ => none
      | _, none => none
      | some i, some _ =>
      match Nat.beq i.bytes 0 with
      | true => none
      | false =>
      match sliceOrString (P.underlying u) with
      | false => none
      | true =>
        match args with
        | [s, x] =>
          match lenN x with
          | none => none
          | some n =>
            match dataOf x n S with
            | none => none
            | some (xs, S) =>
              match xs.singles with
              | false => none
              | true =>
              match s with
              | .atom .nils =>
                match n with
                | .c 0 => some (.nils, S)
                | n =>
                  match (n.mulc i.bytes).fits.claim S with
                  | some S => some (.sl S.H.length (.c 0) n none, (S.new xs).2)
                  | none => none
              | .ref (.sl b o l cap) =>
                match ((l.add n).mulc i.bytes).fits.claim S with
                | some S => appendSl b o l cap n xs S
                | none => none
              | _ => none
        | _ => none
    | _ => none
  | _ => none

/-- One element of more cells behind those of a slice. -/
def appendRow (x : AV) (s bytes : Nat) (cs : List AV) (S : St) : Option (AV × St) :=
  match x with
  | .atom .nils =>
    match ((N.c 1).mulc bytes).fits.claim S with
    | some S => some (.sm S.H.length (.c 1) s, (S.new (.gen cs)).2)
    | none => none
  | .ref (.sm b l s') =>
    match Nat.beq s' s with
    | false => none
    | true =>
      match lget b S.H with
      | some ⟨d, m⟩ =>
        match m with
        | .own =>
          match ((l.mulc s).eq (match l with | .c _ => .c d.len | .s _ => .s d.len)).claim S with
          | some S =>
            match ((l.add (.c 1)).mulc bytes).fits.claim S with
            | some S =>
              match d.app (.gen cs) with
              | some d => some (.sm S.H.length (l.add (.c 1)) s, ((S.kill b).new d).2)
              | none => none
            | none => none
          | none => none
        | _ => none
      | none => none
  | _ => none
def oneRow (x : AV) (s : Nat) (S : St) : Option (List AV) :=
  match x with
  | .ref (.sl b o l _) =>
    match o, l with
    | .c 0, .c 1 =>
      match S.read b with
      | some (.gen cs) =>
        match Nat.beq cs.length s && allSingle cs with
        | true => some cs
        | false => none
      | _ => none
    | _, _ => none
  | _ => none
def appendBig (argTypes : List TypeId) (args : List AV) (S : St) : Option (AV × St) :=
  match argTypes with
  | [t, u] =>
    match elemT P t with
    | some (e, s) =>
      match Nat.ble 2 s with
      | false => none
      | true =>
      match P.info? e, zeroRow P e with
      | none, _ => none
      | _, none => none
      | some i, some _ =>
      match Nat.beq i.bytes 0 with
      | true => none
      | false =>
      match sliceOrString (P.underlying u) with
      | false => none
      | true =>
        match args with
        | [x, y] =>
          match oneRow y s S with
          | some cs => appendRow x s i.bytes cs S
          | none => none
        | _ => none
    | none => none
  | _ => none
def appendE (argTypes : List TypeId) (args : List AV) (S : St) : Option (AV × St) :=
  match appendOp P argTypes args S with
  | some r => some r
  | none => appendBig P argTypes args S

def copyOp (argTypes : List TypeId) (args : List AV) (S : St) : Option (AV × St) :=
  match argTypes with
  | t :: _ =>
    match elemT P t with
    | some (_, 1) =>
      match args with
      | [d, x] =>
        match lenN d with
        | none => none
        | some l =>
          match lenN x with
          | none => none
          | some m =>
            match dataOf x (m.min l) S with
            | none => none
            | some (xs, S) =>
              match xs.singles with
              | false => none
              | true =>
                match d with
                | .ref (.sl b o _ _) =>
                  match S.read b with
                  | none => none
                  | some dd =>
                    match dd.over o xs S with
                    | some (dd, S) =>
                      match S.write b dd with
                      | some S => some (.int .i64 (m.min l).toZ, S)
                      | none => none
                    | none => none
                | .atom .nils => some (.int .i64 (.c 0), S)
                | _ => none
      | _ => none
    | _ => none
  | [] => none

def zeroData (e : TypeId) (n : N) : Option Data :=
  match n with
  | .c n =>
    match zeroRow P e with
    | some z => some (.gen ((List.replicate n z).flatten))
    | none => none
  | .s n =>
    match zeroRow P e with
    | some [z] =>
      match z with
      | .num (.int k (.c z)) =>
        match intEq z 0 with
        | false => none
        | true =>
          match k with
          | .u8 => some (.b8 (Vec.zero 8 n))
          | .u32 => some (.b32 (Vec.zero 32 n))
          | .u64 => some (.b64 (Vec.zero 64 n))
          | _ => none
      | _ => none
    | _ => none
def makeSliceOp (t : TypeId) (l c : AV) (S : St) : Option (AV × St) :=
  match P.underlying t with
  | some (.slice e) =>
    match P.info? e with
    | none => none
    | some i =>
      match Nat.beq i.size 0 with
      | true => none
      | false =>
        match l.nm with
        | none => none
        | some l =>
          match c.nm with
          | none => none
          | some c =>
            match (ordered l c (.c 1099511627776)).claim S with
            | none => none
            | some S =>
              match (c.toN.mulc i.bytes).fits.claim S with
              | none => none
              | some S =>
                match zeroData P e c.toN with
                | some d => some (.sl S.H.length (.c 0) l.toN (some c.toN), (S.new d).2)
                | none => none
  | _ => none

/-- Parts put into a row of cells: each at its place. -/
def fillAt (cells : List AV) : List (Nat × Nat × AV) → Option (List AV)
  | [] => some cells
  | (off, size, v) :: r =>
    match v.row with
    | some vc =>
      match Nat.beq vc.length size with
      | true =>
        match lput vc off cells with
        | some cells => fillAt cells r
        | none => none
      | false => none
    | none => none
def buildOp (t : TypeId) (parts : List (Nat × AV)) : Option AV :=
  match zeroRow P t with
  | none => none
  | some z =>
    match P.underlying t with
    | some (.struct fields) =>
      match mapOpt (fun (f : Field) => (sizeT P f.type).map fun s => (f.offset, s)) fields.toList with
      | some places =>
        match mapOpt (fun (p : Nat × AV) => (lget p.1 places).map fun q => (q.1, q.2, p.2)) parts with
        | some ps => (fillAt z ps).map .agg
        | none => none
      | none => none
    | some (.array _ e) =>
      match sizeT P e with
      | some s => (fillAt z (parts.map fun p => (p.1 * s, s, p.2))).map .agg
      | none => none
    | _ => none
def buildSliceOp (t : TypeId) (len : Nat) (parts : List (Nat × AV)) (S : St) : Option (AV × St) :=
  match elemT P t with
  | some (e, s) =>
    match Nat.beq (len * s) 0 with
    | true => none
    | false =>
      match Nat.ble (len * s) (2 ^ 24) with
      | false => none
      | true =>
        match zeroRow P e with
        | some z =>
          match fillAt ((List.replicate len z).flatten) (parts.map fun p => (p.1 * s, s, p.2)) with
          | some l => some (.sl S.H.length (.c 0) (.c len) (some (.c len)), (S.new (.gen l)).2)
          | none => none
        | none => none
  | none => none
def partOf (t : TypeId) (xs : List AV) (off : Nat) : Option AV :=
  match isAggT P t with
  | none => none
  | some true =>
    match sizeT P t with
    | some s => (lsub s off xs).map .agg
    | none => none
  | some false => lget off xs
def fieldOp (t : TypeId) (x : AV) (f : Nat) : Option AV :=
  match P.underlying t with
  | some (.struct fields) =>
    match x with
    | .agg xs =>
      match lget f fields.toList with
      | some fd => partOf P fd.type xs fd.offset
      | none => none
    | _ => none
  | _ => none
def fieldAddrOp (t : TypeId) (x : AV) (f : Nat) : Option AV :=
  match P.underlying t with
  | some (.struct fields) =>
    match lget f fields.toList with
    | some fd =>
      match sizeT P fd.type with
      | some 0 => none
      | some _ =>
        match x with
        | .ref (.ptr b o) => some (.ptr b (o.add (.c fd.offset)))
        | .ref (.gp b o) => some (.gp b (o.add (.c fd.offset)))
        | _ => none
      | none => none
    | none => none
  | _ => none
/-- A byte of a string. -/
def strAt (s : ByteArray) (k : Int) : BitVec 8 := BitVec.ofNat 8 (s.data.toList.getD k.toNat 0).toNat
def indexOp (t : TypeId) (x i : AV) (S : St) : Option (AV × St) :=
  match i.nm with
  | none => none
  | some z =>
    match P.underlying t with
    | some (.array n e) =>
      match x with
      | .agg xs =>
        match z with
        | .c z =>
          match intLe 0 z && intLt z n with
          | true =>
            match sizeT P e with
            | some s => (partOf P e xs (z.toNat * s)).map (·, S)
            | none => none
          | false => none
        | .s _ => none
      | _ => none
    | some .string =>
      match x with
      | .atom (.str s) =>
        match z with
        | .c z =>
          match intLe 0 z with
          | true =>
            match lget z.toNat s.data.toList with
            | some b => some (.int .u8 (.c b.toNat), S)
            | none => none
          | false => none
        | .s k =>
          match (inRange (.s k) (.c s.size)).claim S with
          | some S => some (.w8 (strAt s k), S)
          | none => none
      | _ => none
    | _ => none
def arrayPtrOp (t : TypeId) (x : AV) (S : St) : Option (AV × St) :=
  match P.underlying t with
  | some (.array n _) =>
    match n with
    | 0 => none
    | n =>
      match x with
      | .ref (.sl b o l _) =>
        match (N.le (.c n) l).claim S with
        | some S => some (.ptr b o, S)
        | none => none
      | _ => none
  | _ => none
def lenOp (argTypes : List TypeId) (args : List AV) : Option AV :=
  match argTypes with
  | t :: _ =>
    match args with
    | x :: _ =>
      match P.underlying t with
      | some (.array n _) => some (.int .i64 (.c n))
      | some (.slice _) =>
        match x with
        | .ref (.sl _ _ l _) => some (.int .i64 l.toZ)
        | .ref (.gs _ _ l) => some (.int .i64 l.toZ)
        | .ref (.sm _ l _) => some (.int .i64 l.toZ)
        | .atom .nils => some (.int .i64 (.c 0))
        | _ => none
      | some .string =>
        match x with
        | .atom (.str s) => some (.int .i64 (.c s.size))
        | _ => none
      | _ => none
    | [] => none
  | [] => none
def capOp (argTypes : List TypeId) (args : List AV) : Option AV :=
  match argTypes with
  | t :: _ =>
    match args with
    | x :: _ =>
      match P.underlying t with
      | some (.array n _) => some (.int .i64 (.c n))
      | some (.slice _) =>
        match x with
        | .ref (.sl _ _ _ (some c)) => some (.int .i64 c.toZ)
        | .atom .nils => some (.int .i64 (.c 0))
        | _ => none
      | _ => none
    | [] => none
  | [] => none
/-- The lesser, or the greater, of two whole numbers. -/
def min2 (mx : Bool) (x y : AV) : Option AV :=
  match x with
  | .num (.int k a) =>
    match y with
    | .num (.int k' b) =>
      match kindEq k k' with
      | false => none
      | true =>
        match (if mx then a.lt b else b.lt a) with
        | .c t => some (.int k (match t with | true => b | false => a))
        | .s t => some (.int k (.s (if t then b.v else a.v)))
    | _ => none
  | _ => none

/-! Equality of rows of numbers. -/
def eqN (x y : Num) : Option B :=
  match x with
  | .int k a =>
    match y with
    | .int k' b =>
      match kindEq k k' with
      | true => some (a.eq b)
      | false => none
    | .w8 y => (Num.int k a).bv8.map fun x => .s (x == y)
    | .w16 y => (Num.int k a).bv16.map fun x => .s (x == y)
    | .w32 y => (Num.int k a).bv32.map fun x => .s (x == y)
    | .w64 y => (Num.int k a).bv64.map fun x => .s (x == y)
  | .w8 x => y.bv8.map fun y => .s (x == y)
  | .w16 x => y.bv16.map fun y => .s (x == y)
  | .w32 x => y.bv32.map fun y => .s (x == y)
  | .w64 x => y.bv64.map fun y => .s (x == y)
def eqCell (x y : AV) : Option B :=
  match x with
  | .num x =>
    match y with
    | .num y => eqN x y
    | _ => none
  | _ => none
def eqCells : List AV → List AV → Option B
  | [], ys => match ys with | [] => some (.c true) | _ => none
  | x :: xs, ys =>
    match ys with
    | [] => none
    | y :: ys =>
      match eqCell x y with
      | none => none
      | some a =>
        match eqCells xs ys with
        | none => none
        | some b => some (B.and a b)

def eqB (x y : B) : B :=
  match x with
  | .c a =>
    match y with
    | .c b => .c (a == b)
    | .s b => .s (a == b)
  | .s a => .s (a == y.v)
def eqOp (t : TypeId) (x y : AV) : Option B :=
  match x with
  | .agg xs =>
    match y with
    | .agg ys =>
      match P.underlying t with
      | some (.array n e) =>
        match P.underlying e with
        | some (.int _) =>
          match sizeT P e with
          | some 1 =>
            match Nat.beq xs.length n with
            | true => eqCells xs ys
            | false => none
          | _ => none
        | _ => none
      | _ => none
    | _ => none
  | .atom (.bool a) =>
    match y with
    | .atom (.bool b) =>
      match P.underlying t with
      | some .bool => some (eqB a b)
      | _ => none
    | _ => none
  | .atom .nili =>
    match y with
    | .obj (.ifc _) _ =>
      match P.underlying t with
      | some (.interface _) => some (.c false)
      | _ => none
    | _ => none
  | .obj (.ifc _) _ =>
    match y with
    | .atom .nili =>
      match P.underlying t with
      | some (.interface _) => some (.c false)
      | _ => none
    | _ => none
  | _ => none
end
end Go.Eng
/- The engine's interpreter. -/
namespace Go.Eng

inductive Out where
  | normal
  | exit (id : Nat)
  | ret

structure Fr where
  vars : List AV
  tmps : List (Nat × AV)

/-- What a contract answers: the value, the whole heap behind the call, the decisions left, what is owed. -/
structure SRes where
  v : AV
  H : List Blk
  dec : List Bool
  cond : List Bool
abbrev Spec := List AV → List Blk → List Bool → Option SRes
abbrev LSpec := Fr → St → Option (Out × Fr × St)

structure Cfg where
  P : Program
  glob : Nat → Option (List AV)
  /-- how many slots are variables, and which others are read in another region than they are written in -/
  nv : FuncId → Nat
  keep : FuncId → List Nat
  /-- regions of open order in which a load and a call or a store may come in either order -/
  dyn : FuncId → Nat → Bool
  spec : FuncId → Option Spec
  loop : FuncId → Nat → Option LSpec
  /-- functions that passed the check -/
  scope : FuncId → Bool
  /-- methods: by the dynamic type and the name -/
  meth : Nat → String → Option FuncId

def assoc (t : Nat) : List (Nat × AV) → AV
  | [] => .undef
  | (k, v) :: r =>
    match Nat.beq k t with
    | true => v
    | false => assoc t r
def Fr.get (nv : Nat) (F : Fr) (t : Nat) : AV :=
  match Nat.blt t nv with
  | true =>
    match lget t F.vars with
    | some v => v
    | none => .undef
  | false => assoc t F.tmps

def Fr.put (nv : Nat) (F : Fr) (d : Option Nat) (v : AV) : Fr :=
  match d with
  | none => F
  | some t =>
    match Nat.blt t nv with
    | true => { F with vars := lset v t F.vars }
    | false => { F with tmps := (t, v) :: F.tmps }

def elemN (t : Nat) : List Nat → Bool
  | [] => false
  | x :: r =>
    match Nat.beq x t with
    | true => true
    | false => elemN t r
def keepOnly (ks : List Nat) : List (Nat × AV) → List (Nat × AV)
  | [] => []
  | (k, v) :: r =>
    match elemN k ks with
    | true => (k, v) :: keepOnly ks r
    | false => keepOnly ks r

/-! Names of blocks in values. -/
def addRef (b : Nat) (rs : List Nat) : List Nat :=
  match elemN b rs with
  | true => rs
  | false => rs ++ [b]
def refsR (r : Ref) (rs : List Nat) : List Nat :=
  match r with
  | .ptr b _ => addRef b rs
  | .sl b _ _ _ => addRef b rs
  | .gp _ _ => rs
  | .gs _ _ _ => rs
  | .sm b _ _ => addRef b rs
mutual
def refsV : AV → List Nat → List Nat
  | .num _, rs => rs
  | .ref r, rs => refsR r rs
  | .atom _, rs => rs
  | .agg xs, rs => refsL xs rs
  | .obj _ xs, rs => refsL xs rs
def refsL : List AV → List Nat → List Nat
  | [], rs => rs
  | v :: r, rs => refsL r (refsV v rs)
end
def idxGo (b : Nat) : List Nat → Nat → Option Nat
  | [], _ => none
  | x :: r, i =>
    match Nat.beq x b with
    | true => some i
    | false => idxGo b r (i + 1)
def toR (rs : List Nat) (r : Ref) : Option Ref :=
  match r with
  | .ptr b o =>
    match idxGo b rs 0 with
    | some i => some (.ptr i o)
    | none => none
  | .sl b o l c =>
    match idxGo b rs 0 with
    | some i => some (.sl i o l c)
    | none => none
  | .gp g o => some (.gp g o)
  | .gs g o l => some (.gs g o l)
  | .sm b l s =>
    match idxGo b rs 0 with
    | some i => some (.sm i l s)
    | none => none
mutual
def toV (rs : List Nat) : AV → Option AV
  | .num n => some (.num n)
  | .ref r =>
    match toR rs r with
    | some r => some (.ref r)
    | none => none
  | .atom a => some (.atom a)
  | .agg xs =>
    match toL rs xs with
    | some xs => some (.agg xs)
    | none => none
  | .obj t xs =>
    match toL rs xs with
    | some xs => some (.obj t xs)
    | none => none
def toL (rs : List Nat) : List AV → Option (List AV)
  | [] => some []
  | v :: r =>
    match toV rs v with
    | some v =>
      match toL rs r with
      | some r => some (v :: r)
      | none => none
    | none => none
end
def toD (rs : List Nat) (d : Data) : Option Data :=
  match d with
  | .gen l =>
    match toL rs l with
    | some l => some (.gen l)
    | none => none
  | .spot n K x =>
    match toV rs x with
    | some x => some (.spot n K x)
    | none => none
  | .kn l t =>
    match toL rs t with
    | some t => some (.kn l t)
    | none => none
  | d => some d
def renR (f : Nat → Nat) (r : Ref) : Ref :=
  match r with
  | .ptr b o => .ptr (f b) o
  | .sl b o l c => .sl (f b) o l c
  | .gp g o => .gp g o
  | .gs g o l => .gs g o l
  | .sm b l s => .sm (f b) l s
mutual
def renV (f : Nat → Nat) : AV → AV
  | .num n => .num n
  | .ref r => .ref (renR f r)
  | .atom a => .atom a
  | .agg xs => .agg (renL f xs)
  | .obj t xs => .obj t (renL f xs)
def renL (f : Nat → Nat) : List AV → List AV
  | [] => []
  | v :: r => renV f v :: renL f r
end
def Data.refs (d : Data) (rs : List Nat) : List Nat :=
  match d with
  | .gen l => refsL l rs
  | .spot _ _ x => refsL [x] rs
  | .kn _ t => refsL t rs
  | _ => rs
def Data.ren (f : Nat → Nat) (d : Data) : Data :=
  match d with
  | .gen l => .gen (renL f l)
  | .spot n K x => .spot n K (renV f x)
  | .kn l t => .kn l (renL f t)
  | d => d
def blkAt (H : List Blk) (b : Nat) : Blk :=
  match lget b H with
  | some k => k
  | none => ⟨.gen [], .dead⟩
/-- All blocks that can be come to from some. -/
def closeRefs (H : List Blk) : Nat → Nat → List Nat → List Nat
  | 0, _, rs => rs
  | n + 1, i, rs =>
    match lget i rs with
    | none => rs
    | some b => closeRefs H n (i + 1) ((blkAt H b).data.refs rs)
/-- The blocks that a call can come to, under names of their own. -/
def seenBy (H : List Blk) (rs : List Nat) : List Nat → Option (List Blk)
  | [] => some []
  | b :: r =>
    match lget b H with
    | none => none
    | some ⟨d, m⟩ =>
      match toD rs d with
      | none => none
      | some d =>
        match seenBy H rs r with
        | some ks => some (⟨d, m⟩ :: ks)
        | none => none
def backOf (rs : List Nat) (base : Nat) (i : Nat) : Nat :=
  match lget i rs with
  | some b => b
  | none => base + (i - rs.length)
def newBlks (f : Nat → Nat) : List Blk → List Blk
  | [] => []
  | ⟨d, m⟩ :: ks => ⟨d.ren f, m⟩ :: newBlks f ks
/-- The blocks of one's own, as the call left them. -/
def putBack (f : Nat → Nat) : List Nat → List Blk → List Blk → Option (List Blk)
  | [], ks, H => some (H ++ newBlks f ks)
  | _ :: _, [], _ => none
  | b :: rs, ⟨d, m⟩ :: ks, H =>
    match (blkAt H b).mode with
    | .own => putBack f rs ks (lset ⟨d.ren f, m⟩ b H)
    | _ => putBack f rs ks H
def lowOf (H : List Blk) : List Nat → Nat → Nat
  | [], l => l
  | b :: rs, l =>
    match (blkAt H b).mode with
    | .own => lowOf H rs (Nat.min l b)
    | _ => lowOf H rs l
def nodupB : List Nat → Bool
  | [] => true
  | x :: r =>
    match elemN x r with
    | true => false
    | false => nodupB r
def callSpec (sp : Spec) (args : List AV) (S : St) : Option (AV × St) :=
  let rs := closeRefs S.H 100 0 (refsL args [])
  match nodupB rs with
  | false => none
  | true =>
    match toL rs args with
    | none => none
    | some args =>
      match seenBy S.H rs rs with
      | none => none
      | some H =>
        match sp args H S.dec with
        | none => none
        | some r =>
          let f := backOf rs S.H.length
          match putBack f rs r.H S.H with
          | none => none
          | some H => some (renV f r.v, { H := H, low := lowOf S.H rs S.low, dec := r.dec, cond := r.cond ++ S.cond })

section
variable (C : Cfg)

def Fr.ev (nv : Nat) (F : Fr) (x : Operand) : AV :=
  match x with
  | .tmp t => F.get nv t
  | .const v => absV v
  | .global g => .gp (2 * g) (.c 0)
  | .func f => .fn (.func f) [] []
def isConst : Operand → Bool
  | .const _ => true
  | _ => false
def evL (ev : Operand → AV) : List Operand → List AV
  | [] => []
  | x :: r => ev x :: evL ev r
def evO (ev : Operand → AV) : Option Operand → Option AV
  | none => none
  | some x => some (ev x)
def evP (ev : Operand → AV) : List (Nat × Operand) → List (Nat × AV)
  | [] => []
  | (i, x) :: r => (i, ev x) :: evP ev r
def val (S : St) : Option AV → Option (AV × St)
  | none => none
  | some v => some (v, S)

def isNili (v : AV) : Bool :=
  match v with
  | .atom .nili => true
  | _ => false
def eqOpE (P : Program) (t : TypeId) (k : Bool) (a b : AV) : Option B :=
  match isNili a && isNili b with
  | true =>
    match k with
    | true =>
      match P.underlying t with
      | some (.interface _) => some (.c true)
      | _ => none
    | false => none
  | false => eqOp P t a b
def binOpE (P : Program) (op : BinOp) (t : TypeId) (x y : Operand) (a b : AV) (S : St) : Option (AV × St) :=
  match binop op a b S with
  | some r => some r
  | none =>
    match eqOpE P t (isConst x || isConst y) a b with
    | none => none
    | some r =>
      match op with
      | .eql => some (.bool r, S)
      | .neq => some (.bool r.not, S)
      | _ => none
def builtinE (P : Program) (b : Builtin) (argTypes : List TypeId) (args : List AV) (S : St) : Option (AV × St) :=
  match b with
  | .len => val S (lenOp P argTypes args)
  | .cap => val S (capOp P argTypes args)
  | .append => appendE P argTypes args S
  | .copy => copyOp P argTypes args S
  | .min =>
    match args with
    | [x, y] => val S (min2 false x y)
    | _ => none
  | .max =>
    match args with
    | [x, y] => val S (min2 true x y)
    | _ => none
  | _ => none

/-- The operations that call nothing. -/
def pickE (c a b : AV) (S : St) : Option (AV × St) :=
  match c with
  | .atom (.bool t) =>
    match t.test S with
    | some (true, S) => some (a, S)
    | some (false, S) => some (b, S)
    | none => none
  | _ => none
def allocE (e : TypeId) (S : St) : Option (AV × St) :=
  match zeroRow C.P e with
  | some z => some (.ptr S.H.length (.c 0), (S.new (.gen z)).2)
  | none => none
def boxE (v : AV) (S : St) : Option (AV × St) :=
  match v.row with
  | some l => some (.ptr S.H.length (.c 0), (S.new (.gen l)).2)
  | none => none
def storeE (r : Option St) : Option (AV × St) :=
  match r with
  | some S => some (.undef, S)
  | none => none
def nilCheckE (v : AV) (S : St) : Option (AV × St) :=
  match v with
  | .ref (.ptr b o) => some (.ptr b o, S)
  | .ref (.gp b o) => some (.gp b o, S)
  | _ => none
/-- A slice of bytes made a slice of bytes (a text that is known): its block is our own; the place behind it is marked. -/
def convSl (e : TypeId) (same : Bool) (v : AV) (S : St) : Option (AV × St) :=
  match same with
  | false => none
  | true =>
    match C.P.underlying e with
    | some (.int .u8) =>
      match v with
      | .ref (.sl b _ (.c (_ + 1)) _) =>
        match lget b S.H with
        | some ⟨_, .own⟩ => some (v, S)
        | _ => none
      | _ => none
    | _ => none
def convE (src dst : TypeId) (v : AV) (S : St) : Option (AV × St) :=
  match C.P.underlying src with
  | none => none
  | some _ =>
    match C.P.underlying dst with
    | some (.int k) => convNum v k S
    | some (.slice e) => convSl C e (Nat.beq src dst) v S
    | _ => none
def ifaceE (t : TypeId) (v : AV) (S : St) : Option (AV × St) :=
  match C.P.underlying t with
  | some (.interface _) => none
  | none => none
  | some _ => some (.ifc t v, S)
def extractE (v : AV) (i : Nat) (S : St) : Option (AV × St) :=
  match v with
  | .obj .tup xs => val S (lget i xs)
  | _ => none
def callBE (c : Call) (ev : Operand → AV) (S : St) : Option (AV × St) :=
  match c.callee with
  | .builtin b => builtinE C.P b c.argTypes.toList (evL ev c.args.toList) S
  | _ => none
/-- The operations that call nothing. -/
inductive OpF where
  | run (f : (Operand → AV) → St → Option (AV × St))
  | call (c : Call)
def opF (op : Op) : OpF :=
  match op with
  | .move x => .run fun ev S => some (ev x, S)
  | .assign x => .run fun ev S => some (ev x, S)
  | .pick c a b => .run fun ev S => pickE (ev c) (ev a) (ev b) S
  | .alloc e => .run fun _ S => allocE C e S
  | .box _ v => .run fun ev S => boxE (ev v) S
  | .build t ps => .run fun ev S => val S (buildOp C.P t (evP ev ps.toList))
  | .buildSlice t n ps => .run fun ev S => buildSliceOp C.P t n (evP ev ps.toList) S
  | .load t a => .run fun ev S => loadOp C.P C.glob t (ev a) S
  | .store t a x => .run fun ev S => storeE (storeOp C.P t (ev a) (ev x) S)
  | .nilCheck x => .run fun ev S => nilCheckE (ev x) S
  | .binOp op t x y _ => .run fun ev S => binOpE C.P op t x y (ev x) (ev y) S
  | .unOp op _ x => .run fun ev S => val S (unop op (ev x))
  | .convert src dst x => .run fun ev S => convE C src dst (ev x) S
  | .sliceToArrayPointer t x => .run fun ev S => arrayPtrOp C.P t (ev x) S
  | .makeInterface t x => .run fun ev S => ifaceE C t (ev x) S
  | .makeFunc f a b => .run fun ev S => some (.fn f (evL ev a.toList) (evL ev b.toList), S)
  | .makeSlice t l c => .run fun ev S => makeSliceOp C.P t (ev l) (ev c) S
  | .slice t x lo hi mx => .run fun ev S => sliceOp C.P t (ev x) (evO ev lo) (evO ev hi) (evO ev mx) S
  | .fieldAddr t x f => .run fun ev S => val S (fieldAddrOp C.P t (ev x) f)
  | .field t x f => .run fun ev S => val S (fieldOp C.P t (ev x) f)
  | .indexAddr t x i => .run fun ev S => indexAddrOp C.P t (ev x) (ev i) S
  | .index t x i => .run fun ev S => indexOp C.P t (ev x) (ev i) S
  | .extract t i => .run fun ev S => extractE (ev t) i S
  | .call c => .call c
  | _ => .run fun _ _ => none


/-- The function that a call goes to, and all it is handed. -/
def callee (ev : Operand → AV) (c : Call) : Option (FuncId × List AV) :=
  match c.callee with
  | .value f =>
    match ev f with
    | .obj (.fn (.func f) n) xs => some (f, xs.take n ++ evL ev c.args.toList ++ xs.drop n)
    | _ => none
  | .invoke r m =>
    match ev r with
    | .obj (.ifc t) [v] =>
      match C.meth t m with
      | some f => some (f, v :: evL ev c.args.toList)
      | none => none
    | _ => none
  | .builtin _ => none

def guardOk (ops : List Oper) (ev : Operand → AV) (g : Option (Nat × Bool)) (S : St) : Option (Bool × St) :=
  match g with
  | none => some (true, S)
  | some (j, want) =>
    match lget j ops with
    | none => none
    | some o =>
      match o.dst with
      | none => none
      | some d =>
        match ev (.tmp d) with
        | .atom (.bool b) =>
          match b.test S with
          | some (t, S) => some (t == want, S)
          | none => none
        | .obj .tup [] => some (false, S)
        | _ => none

abbrev CallF := FuncId → List AV → St → Option (AV × St)

def isBuiltin : Callee → Bool
  | .builtin _ => true
  | _ => false
def callE (c : Call) (call : CallF) (ev : Operand → AV) (S : St) : Option (AV × St) :=
  match isBuiltin c.callee with
  | true => callBE C c ev S
  | false =>
    match callee C ev c with
    | some (f, args) => call f args S
    | none => none
def opE (call : CallF) (ev : Operand → AV) (op : Op) (S : St) : Option (AV × St) :=
  match opF C op with
  | .run f => f ev S
  | .call c => callE C c call ev S

def runOps (call : CallF) (nv : Nat) (ops : List Oper) : List Oper → Fr → St → Option (Fr × St)
  | [], F, S => some (F, S)
  | o :: r, F, S =>
    match guardOk ops (F.ev nv) o.guard S with
    | none => none
    | some (false, S) => runOps call nv ops r (F.put nv o.dst (.obj .tup [])) S
    | some (true, S) =>
      match opE C call (F.ev nv) o.op S with
      | none => none
      | some (v, S) => runOps call nv ops r (F.put nv o.dst v) S

/-! In a region of open order: which operations read what, which others wrote from where on. -/
inductive Ev where
  | load (b : Nat)
  | eff (low : Nat)
  | one (b : Nat)
def blkOf (v : AV) : Option Nat :=
  match v with
  | .ref (.ptr b _) => some b
  | _ => none
def slOf (v : AV) : Option Nat :=
  match v with
  | .ref (.sl b _ _ _) => some b
  | _ => none
def isArr (P : Program) (t : TypeId) : Bool :=
  match P.underlying t with
  | some (.array _ _) => true
  | _ => false
/-- The block that an operation reads, if it is no more than one. -/
def readOf (P : Program) (ev : Operand → AV) (op : Op) : Option Nat :=
  match op with
  | .load _ a => blkOf (ev a)
  | .slice t a _ _ _ =>
    match isArr P t with
    | true => blkOf (ev a)
    | false => none
  | .convert s d x =>
    match Nat.beq s d with
    | true => slOf (ev x)
    | false => none
  | _ => none
def big : Nat := 1000000000
def isEff : Op → Bool
  | .store .. => true
  | .call c =>
    match c.callee with
    | .builtin b =>
      match b with
      | .len | .cap | .min | .max => false
      | _ => true
    | _ => true
  | .box .. => true
  | _ => false
/-- Allocations whose names are set aside. -/
def isFloat : Op → Bool
  | .alloc _ => true
  | .makeSlice .. => true
  | .buildSlice .. => true
  | _ => false
def floatE (ev : Operand → AV) (op : Op) (nm : Nat) (S : St) : Option (AV × St) :=
  match op with
  | .alloc e =>
    match zeroRow C.P e with
    | some z => some (.ptr nm (.c 0), { S with H := lset ⟨.gen z, .own⟩ nm S.H })
    | none => none
  | .makeSlice t l c =>
    match makeSliceOp C.P t (ev l) (ev c) { S with H := [] } with
    | some (x, S') =>
      match x, S'.H with
      | .ref (.sl _ o n cap), [k] => some (.sl nm o n cap, { S' with H := lset k nm S.H })
      | _, _ => none
    | none => none
  | .buildSlice t n ps =>
    match buildSliceOp C.P t n (evP ev ps.toList) { S with H := [] } with
    | some (x, S') =>
      match x, S'.H with
      | .ref (.sl _ o m cap), [k] => some (.sl nm o m cap, { S' with H := lset k nm S.H })
      | _, _ => none
    | none => none
  | _ => none
def lowB (dyn : Bool) (S : St) : St :=
  match dyn with
  | true => { S with low := big }
  | false => S
def lowA (dyn : Bool) (S S' : St) : St :=
  match dyn with
  | true => { S' with low := Nat.min S.low S'.low }
  | false => S'
def storeBlk (ev : Operand → AV) (op : Op) : Option Nat :=
  match op with
  | .store _ a _ => blkOf (ev a)
  | _ => none
def evOf (P : Program) (dyn : Bool) (ev : Operand → AV) (op : Op) (S S' : St) : Option Ev :=
  match dyn with
  | false => none
  | true =>
    match isEff op with
    | true =>
      match storeBlk ev op with
      | some b => some (.one b)
      | none => some (.eff (Nat.min S'.low S.H.length))
    | false =>
      match readOf P ev op with
      | some b => some (.load b)
      | none => none
/-- One operation. -/
def stepW (call : CallF) (nv : Nat) (dyn : Bool) (ops : List Oper) (nm : Nat) (o : Oper) (F : Fr) (S : St) : Option (Fr × St × Option Ev) :=
  match guardOk ops (F.ev nv) o.guard S with
  | none => none
  | some (false, S) => some (F.put nv o.dst (.obj .tup []), S, none)
  | some (true, S) =>
    match isFloat o.op with
    | true =>
      match floatE C (F.ev nv) o.op nm S with
      | none => none
      | some (v, S) => some (F.put nv o.dst v, S, none)
    | false =>
      match opE C call (F.ev nv) o.op (lowB dyn S) with
      | none => none
      | some (v, S') => some (F.put nv o.dst v, lowA dyn S S', evOf C.P dyn (F.ev nv) o.op S S')
def nextNm (o : Oper) (nm : Nat) : Nat :=
  match isFloat o.op with
  | true => nm + 1
  | false => nm
def consEv (i : Nat) (e : Option Ev) (es : List (Nat × Ev)) : List (Nat × Ev) :=
  match e with
  | some e => (i, e) :: es
  | none => es
def runW (call : CallF) (nv : Nat) (dyn : Bool) (ops : List Oper) : List Oper → Nat → Nat → Fr → St → Option (Fr × St × List (Nat × Ev))
  | [], _, _, F, S => some (F, S, [])
  | o :: r, i, nm, F, S =>
    match stepW C call nv dyn ops nm o F S with
    | none => none
    | some (F, S, e) =>
      match runW call nv dyn ops r (i + 1) (nextNm o nm) F S with
      | none => none
      | some (F, S, es) => some (F, S, consEv i e es)
def floats : List Oper → Nat
  | [] => 0
  | o :: r =>
    match isFloat o.op with
    | true => floats r + 1
    | false => floats r
def pads : Nat → List Blk
  | 0 => []
  | n + 1 => ⟨.gen [], .dead⟩ :: pads n
def padSt (S : St) (n : Nat) : St :=
  match n with
  | 0 => S
  | n + 1 => { S with H := S.H ++ pads (n + 1) }
def hits (b : Nat) (e : Ev) : Bool :=
  match e with
  | .eff l => Nat.ble l b
  | .one c => Nat.beq c b
  | .load _ => false
def clash1 (bef : Nat → Nat) (i : Nat) (e : Ev) (j : Nat) (e' : Ev) : Bool :=
  match e with
  | .load b => hits b e' && !(bef j).testBit i
  | e =>
    match e' with
    | .load b => hits b e && !(bef j).testBit i
    | _ => false
def clash (bef : Nat → Nat) (i : Nat) (e : Ev) : List (Nat × Ev) → Bool
  | [] => false
  | (j, e') :: r =>
    match clash1 bef i e j e' with
    | true => true
    | false => clash bef i e r
def clashes (bef : Nat → Nat) : List (Nat × Ev) → Bool
  | [] => false
  | (i, e) :: r =>
    match clash bef i e r with
    | true => true
    | false => clashes bef r
def befOf (ops : Array Oper) (i : Nat) : Nat := (CheckFast.beforeF ops).getD i 0

def firstRid : Code → Option Nat
  | .region id _ _ => some id
  | .seq a _ => firstRid a
  | .block _ a => firstRid a
  | .cond _ a _ => firstRid a
  | _ => none

/-- What all of a function's code has in common. -/
structure Env where
  call : CallF
  nv : Nat
  ks : List Nat
  dyn : Nat → Bool
  lo : Nat → Option LSpec
def regionE (id : Nat) (ops : List Oper) (bef : Nat → Nat) (draw : Bool) (E : Env) (F : Fr) (S : St) : Option (Out × Fr × St) :=
  match draw with
  | false =>
    match runOps C E.call E.nv ops ops F S with
    | some (F, S) => some (.normal, { F with tmps := keepOnly E.ks F.tmps }, S)
    | none => none
  | true =>
    match runW C E.call E.nv (E.dyn id) ops ops 0 S.H.length F (padSt S (floats ops)) with
    | some (F, S, es) =>
      match clashes bef es with
      | true => none
      | false => some (.normal, { F with tmps := keepOnly E.ks F.tmps }, S)
    | none => none
abbrev Run := Env → Fr → St → Option (Out × Fr × St)
def seqE (a b : Run) (E : Env) (F : Fr) (S : St) : Option (Out × Fr × St) :=
  match a E F S with
  | none => none
  | some (o, F, S) =>
    match o with
    | .normal => b E F S
    | o => some (o, F, S)
def condE (x : Operand) (a b : Run) (E : Env) (F : Fr) (S : St) : Option (Out × Fr × St) :=
  match F.ev E.nv x with
  | .atom (.bool t) =>
    match t.test S with
    | some (true, S) => a E F S
    | some (false, S) => b E F S
    | none => none
  | _ => none
def blockE (id : Nat) (b : Run) (E : Env) (F : Fr) (S : St) : Option (Out × Fr × St) :=
  match b E F S with
  | none => none
  | some (o, F, S) =>
    match o with
    | .exit i =>
      match Nat.beq i id with
      | true => some (.normal, F, S)
      | false => some (.exit i, F, S)
    | o => some (o, F, S)
def loopE (rid : Option Nat) (b again : Run) (E : Env) (F : Fr) (S : St) : Option (Out × Fr × St) :=
  match rid.bind E.lo with
  | some sp => sp F S
  | none =>
    match b E F S with
    | none => none
    | some (o, F, S) =>
      match o with
      | .normal => again E F S
      | o => some (o, F, S)
structure RunF where
  run : Run
def execF : Nat → Code → RunF
  | 0, _ => ⟨fun _ _ _ => none⟩
  | n + 1, c =>
    match c with
    | .skip => ⟨fun _ F S => some (.normal, F, S)⟩
    | .region id ops draw => ⟨regionE C id ops.toList (befOf ops) draw⟩
    | .seq a b => ⟨seqE (fun E F S => match execF n a with | ⟨f⟩ => f E F S) (fun E F S => match execF n b with | ⟨f⟩ => f E F S)⟩
    | .cond x a b => ⟨condE x (fun E F S => match execF n a with | ⟨f⟩ => f E F S) (fun E F S => match execF n b with | ⟨f⟩ => f E F S)⟩
    | .block id b => ⟨blockE id (fun E F S => match execF n b with | ⟨f⟩ => f E F S)⟩
    | .loop b => ⟨loopE (firstRid b) (fun E F S => match execF n b with | ⟨f⟩ => f E F S) (fun E F S => match execF n (.loop b) with | ⟨f⟩ => f E F S)⟩
    | .exit id => ⟨fun _ F S => some (.exit id, F, S)⟩
    | .ret => ⟨fun _ F S => some (.ret, F, S)⟩
    | _ => ⟨fun _ _ _ => none⟩
def exec (n : Nat) (c : Code) : Run := fun E F S =>
  match execF C n c with
  | ⟨f⟩ => f E F S

def resultVals (nv : Nat) (F : Fr) (S : St) : List ResultVar → Option (List AV × St)
  | [] => some ([], S)
  | r :: rs =>
    match (match r with
      | .tmp t => some (F.get nv t, S)
      | .cell a t => loadOp C.P C.glob t (F.get nv a) S) with
    | none => none
    | some (v, S) =>
      match resultVals nv F S rs with
      | none => none
      | some (vs, S) => some (v :: vs, S)
def resultVal : List AV → AV
  | [v] => v
  | vs => .tup vs

/-- A call by the function's own body. -/
def callBody (fuel : Nat) (call : CallF) (f : FuncId) (args : List AV) (S : St) : Option (AV × St) :=
  match C.P.funcs[f]? with
  | none => none
  | some fn =>
    match fn.body with
    | none => none
    | some c =>
      match C.scope f && Nat.ble args.length fn.ntmps with
      | false => none
      | true =>
      match exec C fuel c ⟨call, C.nv f, C.keep f, C.dyn f, C.loop f⟩ ⟨args ++ List.replicate (C.nv f - args.length) .undef, []⟩ S with
      | some (.normal, F, S) | some (.ret, F, S) =>
        match resultVals C (C.nv f) F S fn.results.toList with
        | some (vs, S) => some (resultVal vs, S)
        | none => none
      | _ => none

def acall : Nat → Nat → CallF
  | 0, _ => fun _ _ _ => none
  | d + 1, fuel => fun f args S =>
    match C.spec f with
    | some sp => callSpec sp args S
    | none => callBody C fuel (acall d fuel) f args S
end
end Go.Eng
/- The engine's numbers are the model's. -/
namespace Go.Eng
set_option linter.unusedSimpArgs false
set_option linter.unusedVariables false

def St.ok (S : St) : Prop := ∀ b ∈ S.cond, b = true
/-- One state behind another: memory has not turned; nothing that was owed is forgotten. -/
structure Pure (S S' : St) : Prop where
  H : S'.H = S.H
  low : S'.low = S.low
  ok : S'.ok → S.ok
theorem Pure.refl (S : St) : Pure S S := ⟨rfl, rfl, id⟩
theorem Pure.trans {a b c : St} (h : Pure a b) (k : Pure b c) : Pure a c := ⟨k.H.trans h.H, k.low.trans h.low, fun o => h.ok (k.ok o)⟩
theorem demand_pure (S : St) (b : Bool) : Pure S (S.demand b) := ⟨rfl, rfl, fun o x hx => o x (List.mem_cons_of_mem _ hx)⟩
theorem demand_ok {S : St} {b : Bool} (h : (S.demand b).ok) : b = true := h b (List.mem_cons_self ..)

theorem B.test_spec {b : B} {S S' : St} {t : Bool} (h : b.test S = some (t, S')) : Pure S S' ∧ (S'.ok → b.v = t) := by
  unfold B.test at h
  cases b with
  | c b => simp at h; obtain ⟨rfl, rfl⟩ := h; exact ⟨Pure.refl _, fun _ => rfl⟩
  | s b =>
    simp only at h
    cases hd : S.dec with
    | nil => simp [hd] at h
    | cons d r =>
      simp [hd] at h
      obtain ⟨rfl, rfl⟩ := h
      refine ⟨⟨rfl, rfl, fun o x hx => o x (List.mem_cons_of_mem _ hx)⟩, fun o => ?_⟩
      have := o (b == d) (List.mem_cons_self ..)
      simpa [B.v] using this
theorem B.claim_spec {b : B} {S S' : St} (h : b.claim S = some S') : Pure S S' ∧ (S'.ok → b.v = true) := by
  unfold B.claim at h
  cases b with
  | c b => cases b <;> simp at h; subst h; exact ⟨Pure.refl _, fun _ => rfl⟩
  | s b => simp at h; subst h; exact ⟨demand_pure _ _, fun o => demand_ok o⟩

theorem intLe_eq (a b : Int) : intLe a b = decide (a ≤ b) := by
  cases a <;> cases b <;> simp only [intLe]
  · rw [Bool.eq_iff_iff]; simp
  · rw [Bool.eq_iff_iff]; simp; omega
  · rw [Bool.eq_iff_iff]; simp; omega
  · rw [Bool.eq_iff_iff]; simp; omega
theorem intEq_eq (a b : Int) : intEq a b = (a == b) := by
  cases a <;> cases b <;> simp only [intEq]
  · rw [Bool.eq_iff_iff]; simp; omega
  · rw [Bool.eq_iff_iff]; simp
  · rw [Bool.eq_iff_iff]; simp
  · rw [Bool.eq_iff_iff]; simp; omega
theorem intLt_eq (a b : Int) : intLt a b = decide (a < b) := by
  unfold intLt; rw [intLe_eq, Bool.eq_iff_iff]; simp; omega
theorem kindEq_spec {a b : IntKind} (h : kindEq a b = true) : a = b := by cases a <;> cases b <;> simp [kindEq] at h <;> rfl
theorem lo_eq (k : IntKind) : lo k = k.min := by cases k <;> rfl
theorem hi_eq (k : IntKind) : hi k = k.max := by cases k <;> rfl
theorem wrap_in (k : IntKind) (n : Int) (h1 : lo k ≤ n) (h2 : n ≤ hi k) : k.wrap n = n := by
  cases k <;> simp only [lo, hi] at h1 h2
  · exact IntWalk.i8_in n ⟨h1, h2⟩
  · exact IntWalk.i16_in n ⟨h1, h2⟩
  · exact IntWalk.i32_in n ⟨h1, h2⟩
  · exact IntWalk.i64_in n ⟨h1, h2⟩
  · exact IntWalk.u8_in n ⟨h1, h2⟩
  · exact IntWalk.u16_in n ⟨h1, h2⟩
  · exact IntWalk.u32_in n ⟨h1, h2⟩
  · exact IntWalk.u64_in n ⟨h1, h2⟩
theorem wrapF_eq (k : IntKind) (n : Int) : wrapF k n = k.wrap n := by
  unfold wrapF
  cases h1 : intLe (lo k) n <;> simp only
  cases h2 : intLe n (hi k) <;> simp only
  rw [intLe_eq] at h1 h2
  exact (wrap_in k n (by simpa using h1) (by simpa using h2)).symm

theorem B.and_v (a b : B) : (a.and b).v = (a.v && b.v) := by cases a <;> cases b <;> rfl
theorem B.not_v (a : B) : a.not.v = !a.v := by cases a <;> rfl
theorem Z.lt_v (a b : Z) : (a.lt b).v = decide (a.v < b.v) := by
  cases a <;> cases b <;> first | rfl | exact intLt_eq _ _
theorem Z.le_v (a b : Z) : (a.le b).v = decide (a.v ≤ b.v) := by
  cases a <;> cases b <;> first | rfl | exact intLe_eq _ _
theorem Z.eq_v (a b : Z) : (a.eq b).v = (a.v == b.v) := by cases a <;> cases b <;> simp [Z.eq, B.v, Z.v, intEq_eq]
theorem N.le_v (a b : N) : (a.le b).v = decide (a.v ≤ b.v) := by
  cases a <;> cases b
  · rename_i a b; show Nat.ble a b = decide (a ≤ b); rw [Bool.eq_iff_iff]; simp
  · rfl
  · rfl
  · rfl
theorem N.eq_v (a b : N) : (a.eq b).v = (a.v == b.v) := by
  cases a <;> cases b
  · rename_i a b; show Nat.beq a b = (a == b); rw [Bool.eq_iff_iff]; simp
  · rfl
  · rfl
  · rfl
theorem N.toZ_v (a : N) : a.toZ.v = (a.v : Int) := by cases a <;> rfl
theorem Z.toN_v (a : Z) : a.toN.v = a.v.toNat := by cases a <;> rfl
theorem N.map2_v (f : Nat → Nat → Nat) (a b : N) : (N.map2 f a b).v = f a.v b.v := by cases a <;> cases b <;> rfl
theorem N.add_v (a b : N) : (a.add b).v = a.v + b.v := N.map2_v _ a b
theorem N.sub_v (a b : N) : (a.sub b).v = a.v - b.v := N.map2_v _ a b
theorem N.min_v (a b : N) : (a.min b).v = Nat.min a.v b.v := N.map2_v _ a b
theorem N.mulc_v (a : N) (n : Nat) : (a.mulc n).v = a.v * n := by cases a <;> rfl

/-- The kind of a number, and its value. -/
def Num.k : Num → IntKind
  | .int k _ => k
  | .w8 _ => .u8
  | .w16 _ => .u16
  | .w32 _ => .u32
  | .w64 _ => .u64
def Num.val (x : Num) : Value := .int x.k x.z.v

theorem bvOf_spec {n : Nat} {k k' : IntKind} {x : Int} {y : BitVec n} (h : bvOf n k k' x = some y) : k = k' ∧ x = (y.toNat : Int) := by
  unfold bvOf at h
  cases hk : kindEq k k' with
  | false => simp [hk] at h
  | true =>
    simp only [hk] at h
    cases x with
    | negSucc x => simp at h
    | ofNat x =>
      simp only at h
      cases hb : Nat.blt x (2 ^ n) with
      | false => simp [hb] at h
      | true =>
        simp [hb] at h
        refine ⟨kindEq_spec hk, ?_⟩
        subst h
        have : x < 2 ^ n := by simpa using hb
        simp [BitVec.toNat_ofNat, Nat.mod_eq_of_lt this]
theorem Num.bv8_spec {v : Num} {x : BitVec 8} (h : v.bv8 = some x) : v.val = .int .u8 x.toNat := by
  cases v with
  | int k z => cases z <;> simp [Num.bv8] at h; obtain ⟨rfl, rfl⟩ := bvOf_spec h; rfl
  | w8 y => simp [Num.bv8] at h; subst h; rfl
  | _ => simp [Num.bv8] at h
theorem Num.bv16_spec {v : Num} {x : BitVec 16} (h : v.bv16 = some x) : v.val = .int .u16 x.toNat := by
  cases v with
  | int k z => cases z <;> simp [Num.bv16] at h; obtain ⟨rfl, rfl⟩ := bvOf_spec h; rfl
  | w16 y => simp [Num.bv16] at h; subst h; rfl
  | _ => simp [Num.bv16] at h
theorem Num.bv32_spec {v : Num} {x : BitVec 32} (h : v.bv32 = some x) : v.val = .int .u32 x.toNat := by
  cases v with
  | int k z => cases z <;> simp [Num.bv32] at h; obtain ⟨rfl, rfl⟩ := bvOf_spec h; rfl
  | w32 y => simp [Num.bv32] at h; subst h; rfl
  | _ => simp [Num.bv32] at h
theorem Num.bv64_spec {v : Num} {x : BitVec 64} (h : v.bv64 = some x) : v.val = .int .u64 x.toNat := by
  cases v with
  | int k z => cases z <;> simp [Num.bv64] at h; obtain ⟨rfl, rfl⟩ := bvOf_spec h; rfl
  | w64 y => simp [Num.bv64] at h; subst h; rfl
  | _ => simp [Num.bv64] at h

/-! Values in the model and here: first numbers and bools. -/
inductive NRel : AV → Value → Prop
  | num (n : Num) : NRel (.num n) n.val
  | bool (b : B) : NRel (.atom (.bool b)) (.bool b.v)
theorem NRel.int (k : IntKind) (z : Z) : NRel (.num (.int k z)) (.int k z.v) := .num (.int k z)
theorem NRel.w8 (x : BitVec 8) : NRel (.num (.w8 x)) (.int .u8 x.toNat) := .num (.w8 x)
theorem NRel.w16 (x : BitVec 16) : NRel (.num (.w16 x)) (.int .u16 x.toNat) := .num (.w16 x)
theorem NRel.w32 (x : BitVec 32) : NRel (.num (.w32 x)) (.int .u32 x.toNat) := .num (.w32 x)
theorem NRel.w64 (x : BitVec 64) : NRel (.num (.w64 x)) (.int .u64 x.toNat) := .num (.w64 x)

section words
variable {P : Program} (w : World)
/-- The kind that words of n bits are of. -/
def ukind : Nat → IntKind
  | 8 => .u8
  | 16 => .u16
  | 32 => .u32
  | _ => .u64
def width (n : Nat) : Prop := n = 8 ∨ n = 16 ∨ n = 32 ∨ n = 64
theorem ukind_bits {n : Nat} (h : width n) : (ukind n).bits = n := by rcases h with rfl | rfl | rfl | rfl <;> rfl
theorem ukind_wrap {n : Nat} (h : width n) (a : Int) : (ukind n).wrap a = a % (2 ^ n : Nat) := by
  rcases h with rfl | rfl | rfl | rfl <;> simp [ukind, IntKind.wrap, IntKind.signed, IntKind.bits]
theorem ukind_ofInt {n : Nat} (h : width n) (x : BitVec n) : ((BitVec.ofInt (ukind n).bits (x.toNat : Int)).toNat) = x.toNat := by
  rw [ukind_bits h]; simp
theorem wrap_ofNat_bv {n : Nat} (h : width n) (x : BitVec n) : (ukind n).wrap (x.toNat : Int) = x.toNat := by
  rw [ukind_wrap h]
  have := x.isLt
  exact Int.emod_eq_of_lt (by omega) (by omega)
theorem bits_bv {n : Nat} (hn : width n) (x y : BitVec n) (op : BinOp) :
    (op = .and → (Op.intBits op (ukind n) x.toNat y.toNat).run P w = .ok (.int (ukind n) (x &&& y).toNat) w) ∧
    (op = .or → (Op.intBits op (ukind n) x.toNat y.toNat).run P w = .ok (.int (ukind n) (x ||| y).toNat) w) ∧
    (op = .xor → (Op.intBits op (ukind n) x.toNat y.toNat).run P w = .ok (.int (ukind n) (x ^^^ y).toNat) w) ∧
    (op = .andNot → (Op.intBits op (ukind n) x.toNat y.toNat).run P w = .ok (.int (ukind n) (x &&& ~~~y).toNat) w) := by
  have hw := wrap_ofNat_bv hn
  rcases hn with rfl | rfl | rfl | rfl <;> refine ⟨?_, ?_, ?_, ?_⟩ <;> rintro rfl <;>
    simp only [Op.intBits, ukind, IntKind.bits, BitVec.ofInt_natCast, BitVec.ofNat_toNat, BitVec.setWidth_eq, Sem.run_pure, Result.ok.injEq, Value.int.injEq, true_and, and_true] <;>
    exact hw _
theorem wOp_sound {n : Nat} (hn : width n) (mk : BitVec n → AV) (hmk : ∀ x, NRel (mk x) (.int (ukind n) x.toNat)) (op : BinOp) (x y : BitVec n) (t : TypeId) {S S' : St} {r : AV}
    (h : bvOp op n mk x y S = some (r, S')) : Pure S S' ∧ (S'.ok → ∃ v, (binOp op t (.int (ukind n) x.toNat) (.int (ukind n) y.toNat)).run P w = .ok v w ∧ NRel r v) := by
  have hb := bits_bv (P := P) w hn x y op
  have hx := x.isLt
  have hy := y.isLt
  have hdiv : ∀ (h0 : y ≠ 0), ¬ ((y.toNat : Int) = 0) := by
    intro h0 h1; apply h0; apply BitVec.eq_of_toNat_eq; simpa using h1
  cases op <;> simp only [bvOp, wOp, Option.some.injEq, Prod.mk.injEq, reduceCtorEq] at h <;> obtain ⟨rfl, rfl⟩ := h <;>
    first
      | refine ⟨Pure.refl _, fun _ => ?_⟩
      | refine ⟨demand_pure _ _, fun o => ?_⟩
  case add =>
    refine ⟨_, ?_, hmk _⟩
    simp [binOp, Op.intArith, ukind_wrap hn]
  case sub =>
    refine ⟨_, ?_, hmk _⟩
    simp only [binOp, ne_eq, not_true_eq_false, if_false, Op.intArith, ukind_wrap hn, Sem.run_pure, BitVec.toNat_sub]
    have e : ((2 ^ n - y.toNat + x.toNat : Nat) : Int) = ((x.toNat : Int) - y.toNat) + ((2 ^ n : Nat) : Int) := by omega
    rw [Int.natCast_emod, e, Int.add_emod_right]
  case mul =>
    refine ⟨_, ?_, hmk _⟩
    simp [binOp, Op.intArith, ukind_wrap hn]
  case quo =>
    have h0 : y ≠ 0 := by have := demand_ok o; simpa using this
    refine ⟨_, ?_, hmk _⟩
    have hq : ((x.toNat : Int).tdiv y.toNat) = ((x / y).toNat : Int) := by
      rw [BitVec.toNat_udiv]; rfl
    simp only [binOp, ne_eq, not_true_eq_false, if_false, Op.intDiv, hdiv h0, hq, wrap_ofNat_bv hn, Sem.run_pure]
  case rem =>
    have h0 : y ≠ 0 := by have := demand_ok o; simpa using this
    refine ⟨_, ?_, hmk _⟩
    have hq : ((x.toNat : Int).tmod y.toNat) = ((x % y).toNat : Int) := by
      rw [BitVec.toNat_umod]; rfl
    simp only [binOp, ne_eq, not_true_eq_false, if_false, Op.intDiv, hdiv h0, hq, Sem.run_pure]
  case and => exact ⟨_, by simpa [binOp] using hb.1 rfl, hmk _⟩
  case or => exact ⟨_, by simpa [binOp] using hb.2.1 rfl, hmk _⟩
  case xor => exact ⟨_, by simpa [binOp] using hb.2.2.1 rfl, hmk _⟩
  case andNot => exact ⟨_, by simpa [binOp] using hb.2.2.2 rfl, hmk _⟩
  case eql =>
    refine ⟨_, ?_, NRel.bool (.s (x == y))⟩
    simp only [binOp, ne_eq, not_true_eq_false, if_false, Op.intCmp, Sem.run_pure, B.v]
    congr 2
    rw [Bool.eq_iff_iff]; simp [BitVec.toNat_eq]; omega
  case neq =>
    refine ⟨_, ?_, NRel.bool (.s (x != y))⟩
    simp only [binOp, ne_eq, not_true_eq_false, if_false, Op.intCmp, Sem.run_pure, B.v]
    congr 2
    rw [Bool.eq_iff_iff]; simp [BitVec.toNat_eq]; omega
  all_goals
    refine ⟨_, ?_, NRel.bool (.s _)⟩
    simp only [binOp, ne_eq, not_true_eq_false, if_false, Op.intCmp, Sem.run_pure, B.v]
    congr 2
    rw [Bool.eq_iff_iff]; simp only [decide_eq_true_eq]; omega

theorem wSh_sound {n : Nat} (hn : width n) (mk : BitVec n → AV) (hmk : ∀ x, NRel (mk x) (.int (ukind n) x.toNat)) (op : BinOp) (x : BitVec n) (s : Z) (t : TypeId) (yk : IntKind) {S S' : St} {r : AV}
    (h : bvShift mk op x s S = some (r, S')) : Pure S S' ∧ (S'.ok → ∃ v, (binOp op t (.int (ukind n) x.toNat) (.int yk s.v)).run P w = .ok v w ∧ NRel r v) := by
  unfold bvShift at h
  cases hc : ((Z.c 0).le s).claim S with
  | none => simp [hc] at h
  | some S1 =>
    simp only [hc] at h
    obtain ⟨hp, hv⟩ := B.claim_spec hc
    have hx := x.isLt
    cases op <;> simp only [bvSh, wSh, Option.some.injEq, Prod.mk.injEq, reduceCtorEq] at h <;> obtain ⟨rfl, rfl⟩ := h <;> refine ⟨hp, fun o => ?_⟩
    all_goals
      have h0 := hv o
      rw [Z.le_v] at h0
      have h0 : 0 ≤ s.v := of_decide_eq_true h0
      refine ⟨_, ?_, hmk _⟩
      simp only [binOp, Op.shift, if_neg (show ¬ s.v < 0 by omega), ukind_bits hn, Sem.run_pure]
      congr 2
    · rw [ukind_wrap hn, BitVec.toNat_shiftLeft, Nat.shiftLeft_eq]
      by_cases hs : s.v.toNat ≤ n
      · rw [Nat.min_eq_left hs]
        norm_cast
      · rw [Nat.min_eq_right (by omega)]
        obtain ⟨d, hd⟩ : ∃ d, s.v.toNat = n + d := ⟨s.v.toNat - n, by omega⟩
        rw [hd, Nat.pow_add]
        have e1 : ((x.toNat : Int) * 2 ^ n) % ((2 ^ n : Nat) : Int) = 0 := by
          push_cast; exact Int.mul_emod_left _ _
        rw [e1, ← Nat.mul_assoc, Nat.mul_right_comm, Nat.mul_mod_left]; rfl
    · rw [BitVec.toNat_ushiftRight, Nat.shiftRight_eq_div_pow]
      have e0 : ∀ m : Nat, ((x.toNat : Int).fdiv (2 ^ m)) = ((x.toNat / 2 ^ m : Nat) : Int) := by
        intro m
        rw [Int.fdiv_eq_ediv_of_nonneg _ (by exact_mod_cast Nat.zero_le _)]
        norm_cast
      rw [e0]
      by_cases hs : s.v.toNat ≤ n
      · rw [Nat.min_eq_left hs]
      · rw [Nat.min_eq_right (by omega), Nat.div_eq_of_lt hx, Nat.div_eq_of_lt]
        exact Nat.lt_of_lt_of_le hx (Nat.pow_le_pow_right (by omega) (by omega))
end words
end Go.Eng
/- The engine's sums, tests and conversions are the model's. -/
namespace Go.Eng
set_option linter.unusedSimpArgs false
set_option linter.unusedVariables false
section
variable {P : Program} (w : World)

theorem cmp_sound {op : BinOp} {f : Z → Z → B} (h : cmpZ op = some f) (k : IntKind) (x y : Z) (t : TypeId) :
    (binOp op t (.int k x.v) (.int k y.v)).run P w = .ok (.bool (f x y).v) w := by
  cases op <;> simp only [cmpZ, Option.some.injEq, reduceCtorEq] at h <;> subst h <;>
    simp only [binOp, ne_eq, not_true_eq_false, if_false, Op.intCmp, Sem.run_pure, Z.eq_v, Z.lt_v, Z.le_v, B.not_v] <;> rfl

theorem wrap_bits {k : IntKind} {f : (n : Nat) → BitVec n → BitVec n → BitVec n} (g : Nat → Nat → Nat) (hf : ∀ n (x y : BitVec n), (f n x y).toNat = g x.toNat y.toNat)
    (a b : Nat) (ha : (a : Int) ≤ hi k) (hb : (b : Int) ≤ hi k) (hg : ((g a b : Nat) : Int) ≤ hi k) :
    k.wrap (f k.bits (BitVec.ofInt k.bits a) (BitVec.ofInt k.bits b)).toNat = (g a b : Nat) := by
  have hk : hi k < ((2 ^ k.bits : Nat) : Int) := by cases k <;> decide
  have hl : lo k ≤ 0 := by cases k <;> decide
  have e1 : (BitVec.ofInt k.bits (a : Int)).toNat = a := by
    rw [BitVec.ofInt_natCast, BitVec.toNat_ofNat, Nat.mod_eq_of_lt (by omega)]
  have e2 : (BitVec.ofInt k.bits (b : Int)).toNat = b := by
    rw [BitVec.ofInt_natCast, BitVec.toNat_ofNat, Nat.mod_eq_of_lt (by omega)]
  rw [hf, e1, e2]
  exact wrap_in k _ (by omega) hg
theorem hi_pow (k : IntKind) : ∃ m, hi k = ((2 ^ m : Nat) : Int) - 1 := by
  cases k
  · exact ⟨7, by decide⟩
  · exact ⟨15, by decide⟩
  · exact ⟨31, by decide⟩
  · exact ⟨63, by decide⟩
  · exact ⟨8, by decide⟩
  · exact ⟨16, by decide⟩
  · exact ⟨32, by decide⟩
  · exact ⟨64, by decide⟩
theorem land_le (k : IntKind) (a b : Nat) (ha : (a : Int) ≤ hi k) : ((a &&& b : Nat) : Int) ≤ hi k := by
  have : a &&& b ≤ a := Nat.and_le_left
  omega
theorem lor_le (k : IntKind) (a b : Nat) (ha : (a : Int) ≤ hi k) (hb : (b : Int) ≤ hi k) : ((a ||| b : Nat) : Int) ≤ hi k := by
  obtain ⟨m, hm⟩ := hi_pow k
  have : a ||| b < 2 ^ m := Nat.or_lt_two_pow (by omega) (by omega)
  omega
theorem xor_le (k : IntKind) (a b : Nat) (ha : (a : Int) ≤ hi k) (hb : (b : Int) ≤ hi k) : ((a ^^^ b : Nat) : Int) ≤ hi k := by
  obtain ⟨m, hm⟩ := hi_pow k
  have : a ^^^ b < 2 ^ m := Nat.xor_lt_two_pow (by omega) (by omega)
  omega
theorem bitsF_eq (k : IntKind) (f : (n : Nat) → BitVec n → BitVec n → BitVec n) (g : Nat → Nat → Nat) (hf : ∀ n (x y : BitVec n), (f n x y).toNat = g x.toNat y.toNat)
    (hg : ∀ a b : Nat, (a : Int) ≤ hi k → (b : Int) ≤ hi k → ((g a b : Nat) : Int) ≤ hi k) (a b : Int) :
    bitsF k (fun _ => k.wrap (f k.bits (BitVec.ofInt k.bits a) (BitVec.ofInt k.bits b)).toNat) g a b =
      k.wrap (f k.bits (BitVec.ofInt k.bits a) (BitVec.ofInt k.bits b)).toNat := by
  unfold bitsF
  cases a <;> simp only
  cases b <;> simp only
  rename_i a b
  cases h1 : intLe (Int.ofNat a) (hi k) <;> simp only
  cases h2 : intLe (Int.ofNat b) (hi k) <;> simp only
  rw [intLe_eq] at h1 h2
  have h1 : (a : Int) ≤ hi k := of_decide_eq_true h1
  have h2 : (b : Int) ≤ hi k := of_decide_eq_true h2
  exact (wrap_bits g hf a b h1 h2 (hg a b h1 h2)).symm

theorem arithC_sound {op : BinOp} {f : IntKind → Int → Int → Option Z} (h : arithC op = some f) (k : IntKind) (a b : Int) {z : Z} (hz : f k a b = some z) (t : TypeId) :
    (binOp op t (.int k a) (.int k b)).run P w = .ok (.int k z.v) w := by
  have hand := bitsF_eq k (fun n x y => x &&& y) Nat.land (fun n x y => BitVec.toNat_and x y) (fun a b ha _ => land_le k a b ha)
  have hor := bitsF_eq k (fun n x y => x ||| y) Nat.lor (fun n x y => BitVec.toNat_or x y) (fun a b ha hb => lor_le k a b ha hb)
  have hxor := bitsF_eq k (fun n x y => x ^^^ y) Nat.xor (fun n x y => BitVec.toNat_xor x y) (fun a b ha hb => xor_le k a b ha hb)
  cases op <;> simp only [arithC, Option.some.injEq, reduceCtorEq] at h <;> subst h
  case add => simp only [Option.some.injEq] at hz; subst hz; simp [binOp, Op.intArith, Z.v, wrapF_eq]
  case sub => simp only [Option.some.injEq] at hz; subst hz; simp [binOp, Op.intArith, Z.v, wrapF_eq]
  case mul => simp only [Option.some.injEq] at hz; subst hz; simp [binOp, Op.intArith, Z.v, wrapF_eq]
  case quo =>
    simp only at hz
    cases hb : intEq b 0 with
    | true => simp [hb] at hz
    | false =>
      simp only [hb, Option.some.injEq] at hz; subst hz
      rw [intEq_eq] at hb
      have hb : ¬ b = 0 := by simpa using hb
      simp [binOp, Op.intDiv, Z.v, wrapF_eq, hb]
  case rem =>
    simp only at hz
    cases hb : intEq b 0 with
    | true => simp [hb] at hz
    | false =>
      simp only [hb, Option.some.injEq] at hz; subst hz
      rw [intEq_eq] at hb
      have hb : ¬ b = 0 := by simpa using hb
      simp [binOp, Op.intDiv, Z.v, hb]
  case and => simp only [Option.some.injEq] at hz; subst hz; simp only [binOp, ne_eq, not_true_eq_false, if_false, Op.intBits, Sem.run_pure, Z.v, hand]
  case or => simp only [Option.some.injEq] at hz; subst hz; simp only [binOp, ne_eq, not_true_eq_false, if_false, Op.intBits, Sem.run_pure, Z.v, hor]
  case xor => simp only [Option.some.injEq] at hz; subst hz; simp only [binOp, ne_eq, not_true_eq_false, if_false, Op.intBits, Sem.run_pure, Z.v, hxor]
  case andNot => simp only [Option.some.injEq] at hz; subst hz; simp only [binOp, ne_eq, not_true_eq_false, if_false, Op.intBits, Sem.run_pure, Z.v]

theorem arithS_sound {op : BinOp} {f : IntKind → Int → Int → St → AV × St} (h : arithS op = some f) (k : IntKind) (a b : Int) (S : St) (t : TypeId) :
    Pure S (f k a b S).2 ∧ ((f k a b S).2.ok → ∃ v, (binOp op t (.int k a) (.int k b)).run P w = .ok v w ∧ NRel (f k a b S).1 v) := by
  cases op <;> simp only [arithS, Option.some.injEq, reduceCtorEq] at h <;> subst h <;> refine ⟨demand_pure _ _, fun o => ?_⟩ <;>
    have hd := of_decide_eq_true (demand_ok o) <;> refine ⟨_, ?_, NRel.int _ _⟩
  case add => simp [binOp, Op.intArith, Z.v, wrap_in k _ hd.1 hd.2]
  case sub => simp [binOp, Op.intArith, Z.v, wrap_in k _ hd.1 hd.2]
  case mul => simp [binOp, Op.intArith, Z.v, wrap_in k _ hd.1 hd.2]
  case quo =>
    obtain ⟨h1, h2, h3⟩ := hd
    have hb : ¬ b = 0 := by omega
    have hl : lo k ≤ 0 := by cases k <;> decide
    have e : a.tdiv b = a / b := Int.tdiv_eq_ediv_of_nonneg h1
    have q1 : 0 ≤ a / b := Int.ediv_nonneg h1 (by omega)
    have q2 : a / b ≤ a := Int.ediv_le_self b h1
    simp only [binOp, ne_eq, not_true_eq_false, if_false, Op.intDiv, hb, Sem.run_pure, Z.v]
    rw [wrap_in k _ (by omega) (by omega)]
  case rem => simp only [binOp, ne_eq, not_true_eq_false, if_false, Op.intDiv, (show ¬ b = 0 from hd), Sem.run_pure, Z.v]
  case and => simp only [binOp, ne_eq, not_true_eq_false, if_false, Op.intBits, Sem.run_pure, Z.v, andV]
  case or => simp only [binOp, ne_eq, not_true_eq_false, if_false, Op.intBits, Sem.run_pure, Z.v, orV]
  case xor =>
    obtain ⟨h1, h2, h3, h4⟩ := hd
    obtain ⟨x, rfl⟩ := Int.eq_ofNat_of_zero_le h1
    obtain ⟨y, rfl⟩ := Int.eq_ofNat_of_zero_le h2
    have e := wrap_bits (k := k) (f := fun n x y => x ^^^ y) (fun a b => a ^^^ b) (fun n x y => BitVec.toNat_xor x y) x y h3 h4 (xor_le k x y h3 h4)
    simp only [binOp, ne_eq, not_true_eq_false, if_false, Op.intBits, Sem.run_pure, Z.v, e, Int.toNat_natCast]

theorem intArith_sound {op : BinOp} {k : IntKind} {x y : Z} {S S' : St} {r : AV} (h : intArith op k x y S = some (r, S')) (t : TypeId) :
    Pure S S' ∧ (S'.ok → ∃ v, (binOp op t (.int k x.v) (.int k y.v)).run P w = .ok v w ∧ NRel r v) := by
  unfold intArith at h
  cases hc : cmpZ op with
  | some f =>
    simp only [hc, Option.some.injEq, Prod.mk.injEq] at h
    obtain ⟨rfl, rfl⟩ := h
    exact ⟨Pure.refl _, fun _ => ⟨_, cmp_sound w hc k x y t, .bool _⟩⟩
  | none =>
    simp only [hc] at h
    have hs : ∀ a b, arithSE op k a b S = some (r, S') → Pure S S' ∧ (S'.ok → ∃ v, (binOp op t (.int k a) (.int k b)).run P w = .ok v w ∧ NRel r v) := by
      intro a b h
      unfold arithSE at h
      cases ha : arithS op with
      | none => simp [ha] at h
      | some f =>
        simp only [ha, Option.some.injEq] at h
        have := arithS_sound (P := P) w ha k a b S t
        rw [h] at this
        exact this
    cases x with
    | s a =>
      cases y with
      | s b => exact hs _ _ h
      | c b => exact hs _ _ h
    | c a =>
      cases y with
      | s b => exact hs _ _ h
      | c b =>
        simp only at h
        cases ha : arithC op with
        | none => simp [ha] at h
        | some f =>
          simp only [ha] at h
          cases hz : f k a b with
          | none => simp [hz] at h
          | some z =>
            simp only [hz, Option.some.injEq, Prod.mk.injEq] at h
            obtain ⟨rfl, rfl⟩ := h
            exact ⟨Pure.refl _, fun _ => ⟨_, arithC_sound w ha k a b hz t, .int _ _⟩⟩

theorem isShift_iff {op : BinOp} : isShift op = true ↔ op = .shl ∨ op = .shr := by cases op <;> simp [isShift]

theorem shiftC_sound {op : BinOp} {k : IntKind} {a r : Int} {n : Nat} (h : shiftC op k a n = some r) (t : TypeId) (yk : IntKind) :
    (binOp op t (.int k a) (.int yk n)).run P w = .ok (.int k r) w := by
  have hn : ¬ ((n : Int) < 0) := by omega
  cases op <;> simp only [shiftC, reduceCtorEq] at h
  case shl =>
    cases a with
    | ofNat x =>
      simp only [Option.some.injEq] at h; subst h
      simp only [binOp, Op.shift, hn, if_false, Int.toNat_natCast, Sem.run_pure, wrapF_eq]
      congr 3
      show Int.ofNat x * 2 ^ min n k.bits = Int.ofNat (x <<< (min n k.bits))
      rw [Nat.shiftLeft_eq]; simp
    | negSucc x =>
      simp only [Option.some.injEq] at h; subst h
      simp only [binOp, Op.shift, hn, if_false, Int.toNat_natCast, Sem.run_pure]
  case shr =>
    cases a with
    | ofNat x =>
      simp only [Option.some.injEq] at h; subst h
      simp only [binOp, Op.shift, hn, if_false, Int.toNat_natCast, Sem.run_pure]
      congr 2
      show (Int.ofNat x).fdiv (2 ^ min n k.bits) = Int.ofNat (x >>> (min n k.bits))
      rw [Nat.shiftRight_eq_div_pow, Int.fdiv_eq_ediv_of_nonneg _ (by exact_mod_cast Nat.zero_le _)]
      simp
    | negSucc x =>
      simp only [Option.some.injEq] at h; subst h
      simp only [binOp, Op.shift, hn, if_false, Int.toNat_natCast, Sem.run_pure]

theorem shiftI_sound {op : BinOp} {k : IntKind} {z s : Z} {S S' : St} {r : AV} (h : shiftI k z op s S = some (r, S')) (t : TypeId) (yk : IntKind) :
    Pure S S' ∧ (S'.ok → ∃ v, (binOp op t (.int k z.v) (.int yk s.v)).run P w = .ok v w ∧ NRel r v) := by
  unfold shiftI at h
  cases s with
  | s b => simp at h
  | c b =>
    simp only at h
    cases h0 : intLe 0 b with
    | false => simp [h0] at h
    | true =>
      rw [intLe_eq] at h0
      have h0' : 0 ≤ b := of_decide_eq_true h0
      obtain ⟨n, rfl⟩ := Int.eq_ofNat_of_zero_le h0'
      simp only [show intLe 0 (n : Int) = true by rw [intLe_eq]; exact h0] at h
      have hn : ¬ ((n : Int) < 0) := by omega
      cases z with
      | c a =>
        simp only [Int.toNat_natCast] at h
        cases hs : shiftC op k a n with
        | none => simp [hs] at h
        | some r' =>
          simp only [hs, Option.some.injEq, Prod.mk.injEq] at h
          obtain ⟨rfl, rfl⟩ := h
          exact ⟨Pure.refl _, fun _ => ⟨_, shiftC_sound w hs t yk, .int _ _⟩⟩
      | s a =>
        simp only [Int.toNat_natCast] at h
        cases hb : Nat.blt n k.bits with
        | false => simp [hb] at h
        | true =>
          have hb' : n < k.bits := by simpa using hb
          have hm : min n k.bits = n := Nat.min_eq_left (by omega)
          cases op <;> simp only [hb, Option.some.injEq, Prod.mk.injEq, reduceCtorEq] at h <;> obtain ⟨rfl, rfl⟩ := h
          · refine ⟨Pure.refl _, fun o => ⟨_, ?_, NRel.int _ _⟩⟩
            simp only [binOp, Op.shift, Z.v, hn, if_false, Int.toNat_natCast, hm, Sem.run_pure, shlV]
          · refine ⟨Pure.refl _, fun o => ⟨_, ?_, NRel.int _ _⟩⟩
            simp only [binOp, Op.shift, Z.v, hn, if_false, Int.toNat_natCast, hm, Sem.run_pure]
            rw [Int.fdiv_eq_ediv_of_nonneg _ (by exact_mod_cast Nat.zero_le _)]

theorem bvBin_sound {n : Nat} (hn : width n) (mk : BitVec n → AV) (hmk : ∀ x, NRel (mk x) (.int (ukind n) x.toNat)) {op : BinOp} {x y : Option (BitVec n)} {S S' : St} {r : AV} {vx vy : Value}
    (hx : ∀ b, x = some b → vx = .int (ukind n) b.toNat) (hy : ∀ b, y = some b → vy = .int (ukind n) b.toNat) (h : bvBin mk op x y S = some (r, S')) (t : TypeId) :
    Pure S S' ∧ (S'.ok → ∃ v, (binOp op t vx vy).run P w = .ok v w ∧ NRel r v) := by
  unfold bvBin at h
  cases x with
  | none => simp at h
  | some x =>
    cases y with
    | none => simp at h
    | some y =>
      rw [hx x rfl, hy y rfl]
      exact wOp_sound w hn mk hmk op x y t h

theorem w8' : width 8 := .inl rfl
theorem w16' : width 16 := .inr (.inl rfl)
theorem w32' : width 32 := .inr (.inr (.inl rfl))
theorem w64' : width 64 := .inr (.inr (.inr rfl))

theorem numOp_sound {x y : Num} {op : BinOp} {S S' : St} {r : AV} (h : numOp x y op S = some (r, S')) (t : TypeId) :
    Pure S S' ∧ (S'.ok → ∃ v, (binOp op t x.val y.val).run P w = .ok v w ∧ NRel r v) := by
  have one : ∀ {n : Nat} (b c : BitVec n), some b = some c → (Value.int (ukind n) b.toNat) = .int (ukind n) c.toNat := by
    intro n b c e; injection e with e; rw [e]
  cases x with
  | int k a =>
    simp only [numOp] at h
    cases y with
    | int k' b =>
      simp only [intOp] at h
      cases hk : kindEq k k' with
      | false => simp [hk] at h
      | true =>
        simp only [hk] at h
        obtain rfl := kindEq_spec hk
        exact intArith_sound w h t
    | w8 y => exact bvBin_sound w w8' .w8 (fun x => NRel.w8 x) (fun b hb => Num.bv8_spec hb) (fun b hb => one y b hb) h t
    | w16 y => exact bvBin_sound w w16' .w16 (fun x => NRel.w16 x) (fun b hb => Num.bv16_spec hb) (fun b hb => one y b hb) h t
    | w32 y => exact bvBin_sound w w32' .w32 (fun x => NRel.w32 x) (fun b hb => Num.bv32_spec hb) (fun b hb => one y b hb) h t
    | w64 y => exact bvBin_sound w w64' .w64 (fun x => NRel.w64 x) (fun b hb => Num.bv64_spec hb) (fun b hb => one y b hb) h t
  | w8 x => exact bvBin_sound w w8' .w8 (fun x => NRel.w8 x) (fun b hb => one x b hb) (fun b hb => Num.bv8_spec hb) h t
  | w16 x => exact bvBin_sound w w16' .w16 (fun x => NRel.w16 x) (fun b hb => one x b hb) (fun b hb => Num.bv16_spec hb) h t
  | w32 x => exact bvBin_sound w w32' .w32 (fun x => NRel.w32 x) (fun b hb => one x b hb) (fun b hb => Num.bv32_spec hb) h t
  | w64 x => exact bvBin_sound w w64' .w64 (fun x => NRel.w64 x) (fun b hb => one x b hb) (fun b hb => Num.bv64_spec hb) h t

theorem shiftOp_sound {x y : Num} {op : BinOp} {S S' : St} {r : AV} (h : shiftOp x op y.z S = some (r, S')) (t : TypeId) :
    Pure S S' ∧ (S'.ok → ∃ v, (binOp op t x.val y.val).run P w = .ok v w ∧ NRel r v) := by
  cases x with
  | int k z => exact shiftI_sound w h t y.k
  | w8 x => exact wSh_sound w w8' .w8 (fun x => NRel.w8 x) op x y.z t y.k h
  | w16 x => exact wSh_sound w w16' .w16 (fun x => NRel.w16 x) op x y.z t y.k h
  | w32 x => exact wSh_sound w w32' .w32 (fun x => NRel.w32 x) op x y.z t y.k h
  | w64 x => exact wSh_sound w w64' .w64 (fun x => NRel.w64 x) op x y.z t y.k h

theorem binop_sound {op : BinOp} {x y r : AV} {S S' : St} (h : binop op x y S = some (r, S')) (t : TypeId) :
    ∃ a b, x = .num a ∧ y = .num b ∧ Pure S S' ∧ (S'.ok → ∃ v, (binOp op t a.val b.val).run P w = .ok v w ∧ NRel r v) := by
  unfold Eng.binop at h
  cases x <;> try (simp at h; done)
  rename_i a
  cases y <;> try (simp at h; done)
  rename_i b
  refine ⟨a, b, rfl, rfl, ?_⟩
  simp only at h
  cases hs : isShift op with
  | true => simp only [hs] at h; exact shiftOp_sound w h t
  | false => simp only [hs] at h; exact numOp_sound w h t

/-! Conversions. -/
theorem convW_sound {k : IntKind} {n : Nat} {a b c d : AV} {S S' : St} {r : AV} (h : convW k n a b c d S = some (r, S'))
    (ha : NRel a (.int .u8 (IntKind.u8.wrap n))) (hb : NRel b (.int .u16 (IntKind.u16.wrap n))) (hc : NRel c (.int .u32 (IntKind.u32.wrap n))) (hd : NRel d (.int .u64 (IntKind.u64.wrap n))) :
    Pure S S' ∧ (S'.ok → NRel r (.int k (k.wrap n))) := by
  cases k <;> simp only [convW, Option.some.injEq, Prod.mk.injEq] at h <;> obtain ⟨rfl, rfl⟩ := h
  case u8 => exact ⟨Pure.refl _, fun _ => ha⟩
  case u16 => exact ⟨Pure.refl _, fun _ => hb⟩
  case u32 => exact ⟨Pure.refl _, fun _ => hc⟩
  case u64 => exact ⟨Pure.refl _, fun _ => hd⟩
  all_goals
    refine ⟨demand_pure _ _, fun o => ?_⟩
    have hd := of_decide_eq_true (demand_ok o)
    rw [wrap_in _ _ (by simp only [lo]; omega) hd]
    exact NRel.int _ _
theorem setW {n m : Nat} (hm : width m) (x : BitVec n) (mk : BitVec m → AV) (hmk : ∀ x, NRel (mk x) (.int (ukind m) x.toNat)) : NRel (mk (x.setWidth m)) (.int (ukind m) ((ukind m).wrap x.toNat)) := by
  have := hmk (x.setWidth m)
  rw [ukind_wrap hm]
  rw [BitVec.toNat_setWidth] at this
  rwa [← Int.natCast_emod]
theorem sameW {m : Nat} (hm : width m) (x : BitVec m) (mk : BitVec m → AV) (hmk : ∀ x, NRel (mk x) (.int (ukind m) x.toNat)) : NRel (mk x) (.int (ukind m) ((ukind m).wrap x.toNat)) := by
  rw [wrap_ofNat_bv hm]; exact hmk x
theorem ofIntW {m : Nat} (hm : width m) (n : Int) (mk : BitVec m → AV) (hmk : ∀ x, NRel (mk x) (.int (ukind m) x.toNat)) : NRel (mk (BitVec.ofInt m n)) (.int (ukind m) ((ukind m).wrap n)) := by
  have := hmk (BitVec.ofInt m n)
  rw [ukind_wrap hm]
  rw [BitVec.toNat_ofInt, Int.toNat_of_nonneg (Int.emod_nonneg _ (by rcases hm with rfl | rfl | rfl | rfl <;> decide))] at this
  exact this
theorem convI_sound {k : IntKind} {n : Int} {S S' : St} {r : AV} (h : convI n k S = some (r, S')) : Pure S S' ∧ (S'.ok → NRel r (.int k (k.wrap n))) := by
  cases k <;> simp only [convI, Option.some.injEq, Prod.mk.injEq] at h <;> obtain ⟨rfl, rfl⟩ := h
  case u8 => exact ⟨Pure.refl _, fun _ => ofIntW w8' n .w8 (fun x => NRel.w8 x)⟩
  case u16 => exact ⟨Pure.refl _, fun _ => ofIntW w16' n .w16 (fun x => NRel.w16 x)⟩
  case u32 => exact ⟨Pure.refl _, fun _ => ofIntW w32' n .w32 (fun x => NRel.w32 x)⟩
  case u64 => exact ⟨Pure.refl _, fun _ => ofIntW w64' n .w64 (fun x => NRel.w64 x)⟩
  all_goals
    refine ⟨demand_pure _ _, fun o => ?_⟩
    have hd := of_decide_eq_true (demand_ok o)
    rw [wrap_in _ _ hd.1 hd.2]
    exact NRel.int _ _
theorem convN_sound {x : Num} {k : IntKind} {S S' : St} {r : AV} (h : convN x k S = some (r, S')) : Pure S S' ∧ (S'.ok → NRel r (.int k (k.wrap x.z.v))) := by
  have g8 : ∀ {n : Nat} (x : BitVec n), NRel (.num (.w8 (x.setWidth 8))) (.int .u8 (IntKind.u8.wrap x.toNat)) := fun x => setW w8' x .w8 (fun x => NRel.w8 x)
  have g16 : ∀ {n : Nat} (x : BitVec n), NRel (.num (.w16 (x.setWidth 16))) (.int .u16 (IntKind.u16.wrap x.toNat)) := fun x => setW w16' x .w16 (fun x => NRel.w16 x)
  have g32 : ∀ {n : Nat} (x : BitVec n), NRel (.num (.w32 (x.setWidth 32))) (.int .u32 (IntKind.u32.wrap x.toNat)) := fun x => setW w32' x .w32 (fun x => NRel.w32 x)
  have g64 : ∀ {n : Nat} (x : BitVec n), NRel (.num (.w64 (x.setWidth 64))) (.int .u64 (IntKind.u64.wrap x.toNat)) := fun x => setW w64' x .w64 (fun x => NRel.w64 x)
  cases x with
  | int k0 z =>
    cases z with
    | c n =>
      simp only [convN, Option.some.injEq, Prod.mk.injEq] at h
      obtain ⟨rfl, rfl⟩ := h
      refine ⟨Pure.refl _, fun _ => ?_⟩
      have := NRel.int k (.c (wrapF k n))
      rw [wrapF_eq] at this
      simpa [Z.v, Num.z, wrapF_eq] using this
    | s n => exact convI_sound h
  | w8 x => exact convW_sound h (sameW w8' x .w8 (fun x => NRel.w8 x)) (g16 x) (g32 x) (g64 x)
  | w16 x => exact convW_sound h (g8 x) (sameW w16' x .w16 (fun x => NRel.w16 x)) (g32 x) (g64 x)
  | w32 x => exact convW_sound h (g8 x) (g16 x) (sameW w32' x .w32 (fun x => NRel.w32 x)) (g64 x)
  | w64 x => exact convW_sound h (g8 x) (g16 x) (g32 x) (sameW w64' x .w64 (fun x => NRel.w64 x))

theorem neg_bv {n : Nat} (hn : width n) (x : BitVec n) : (ukind n).wrap (0 - (x.toNat : Int)) = ((0#n - x).toNat : Int) := by
  have hx := x.isLt
  rw [ukind_wrap hn, BitVec.toNat_sub]
  have e0 : (0#n).toNat = 0 := by simp
  have e : ((2 ^ n - x.toNat + (0#n).toNat : Nat) : Int) = (0 - (x.toNat : Int)) + ((2 ^ n : Nat) : Int) := by rw [e0]; omega
  rw [Int.natCast_emod, e, Int.add_emod_right]
theorem com_bv {n : Nat} (hn : width n) (x : BitVec n) : (Op.intBits .xor (ukind n) (if (ukind n).signed then -1 else (ukind n).max) x.toNat).run P w = .ok (.int (ukind n) ((~~~x).toNat)) w := by
  have hw := wrap_ofNat_bv hn (~~~x)
  rw [← BitVec.allOnes_xor] at hw
  rcases hn with rfl | rfl | rfl | rfl <;>
    simp only [Op.intBits, ukind, IntKind.bits, IntKind.signed, IntKind.max, BitVec.ofInt_natCast, BitVec.ofNat_toNat, BitVec.setWidth_eq, Sem.run_pure, Result.ok.injEq, Value.int.injEq, true_and, and_true, ← BitVec.allOnes_xor, Bool.false_eq_true, if_false] <;>
    exact hw
theorem unop_sound {op : UnOp} {x r : AV} {vx : Value} (hx : NRel x vx) (h : unop op x = some r) : ∃ v, (Op.unary op vx).run P w = .ok v w ∧ NRel r v := by
  cases hx with
  | bool b =>
    cases op <;> simp only [unop, Option.some.injEq, reduceCtorEq] at h
    subst h
    exact ⟨_, rfl, by rw [← B.not_v]; exact .bool _⟩
  | num n =>
    cases op <;> simp only [unop, Option.some.injEq, reduceCtorEq] at h
    · cases n with
      | int k z =>
        cases z <;> simp only [negN, Option.some.injEq, reduceCtorEq] at h
        subst h
        rename_i n; exact ⟨_, rfl, by have := NRel.int k (.c (wrapF k (0 - n))); rw [wrapF_eq] at this ⊢; exact this⟩
      | w8 x => simp only [negN, Option.some.injEq] at h; subst h; exact ⟨_, rfl, by have := NRel.w8 (0#8 - x); rw [← neg_bv w8'] at this; exact this⟩
      | w16 x => simp only [negN, Option.some.injEq] at h; subst h; exact ⟨_, rfl, by have := NRel.w16 (0#16 - x); rw [← neg_bv w16'] at this; exact this⟩
      | w32 x => simp only [negN, Option.some.injEq] at h; subst h; exact ⟨_, rfl, by have := NRel.w32 (0#32 - x); rw [← neg_bv w32'] at this; exact this⟩
      | w64 x => simp only [negN, Option.some.injEq] at h; subst h; exact ⟨_, rfl, by have := NRel.w64 (0#64 - x); rw [← neg_bv w64'] at this; exact this⟩
    · cases n with
      | int k z =>
        cases z <;> simp only [comN, Option.some.injEq, reduceCtorEq] at h
        subst h
        rename_i n; exact ⟨_, rfl, NRel.int k (.c _)⟩
      | w8 x => simp only [comN, Option.some.injEq] at h; subst h; exact ⟨_, com_bv w w8' x, .w8 _⟩
      | w16 x => simp only [comN, Option.some.injEq] at h; subst h; exact ⟨_, com_bv w w16' x, .w16 _⟩
      | w32 x => simp only [comN, Option.some.injEq] at h; subst h; exact ⟨_, com_bv w w32' x, .w32 _⟩
      | w64 x => simp only [comN, Option.some.injEq] at h; subst h; exact ⟨_, com_bv w w64' x, .w64 _⟩
end
end Go.Eng
/- How abstract values and an abstract heap stand to the model's. -/
namespace Go.Eng
set_option linter.unusedSimpArgs false
set_option linter.unusedVariables false

/-- Where a block lies: the model's block, the first cell, how many cells from there on. -/
structure Loc where
  c : Nat
  base : Nat
  room : Nat
abbrev Map := Nat → Option Loc
def Map.le (β β' : Map) : Prop := ∀ b L, β b = some L → β' b = some L
theorem Map.le_refl (β : Map) : Map.le β β := fun _ _ h => h
theorem Map.le_trans {a b c : Map} (h : Map.le a b) (k : Map.le b c) : Map.le a c := fun x L hx => k x L (h x L hx)

def at' (c o : Nat) : Addr := ⟨c, o, none⟩
/-- Where the rows lie that package variables lead to: the model's block and the first cell. -/
class RowAddr where
  row : Nat → Nat × Nat
/-- A place: an even key names a variable, an odd one the row behind it. -/
def gAt [RowAddr] (k o : Nat) : Addr := if k % 2 = 0 then at' (k / 2) o else at' (RowAddr.row (k / 2)).1 ((RowAddr.row (k / 2)).2 + o)
def gIx [RowAddr] (k : Nat) : Nat := if k % 2 = 0 then k / 2 else (RowAddr.row (k / 2)).1
theorem gAt_eq [RowAddr] (k : Nat) : ∃ b, ∀ o, gAt k o = at' (gIx k) (b + o) := by
  unfold gAt gIx
  split
  · exact ⟨0, fun o => by rw [Nat.zero_add]⟩
  · exact ⟨_, fun o => rfl⟩
theorem gAt_var [RowAddr] (g o : Nat) : gAt (2 * g) o = at' g o := by
  unfold gAt
  rw [if_pos (by omega), show 2 * g / 2 = g by omega]
theorem gIx_var [RowAddr] (g : Nat) : gIx (2 * g) = g := by
  unfold gIx
  rw [if_pos (by omega), show 2 * g / 2 = g by omega]
set_option linter.unusedSectionVars false
variable [RowAddr]
inductive VRel (β : Map) : AV → Value → Prop
  | undef (v : Value) : VRel β (.atom .undef) v
  | bool (b : B) : VRel β (.atom (.bool b)) (.bool b.v)
  | str (s : ByteArray) : VRel β (.atom (.str s)) (.string s)
  | nilp : VRel β (.atom .nilp) (.pointer none)
  | nils : VRel β (.atom .nils) (.slice none 0 0)
  | nili : VRel β (.atom .nili) .nilIface
  | nilf : VRel β (.atom .nilf) .nilFunc
  | exact (v : Value) : VRel β (.atom (.exact v)) v
  | num (n : Num) : VRel β (.num n) n.val
  | ptr (b : Nat) (o : N) (L : Loc) (h : β b = some L) : VRel β (.ref (.ptr b o)) (.pointer (some (at' L.c (L.base + o.v))))
  | gp (g : Nat) (o : N) : VRel β (.ref (.gp g o)) (.pointer (some (gAt g o.v)))
  | gs (g : Nat) (o l : N) (cp : Nat) (h : l.v ≤ cp) : VRel β (.ref (.gs g o l)) (.slice (some (gAt g o.v)) l.v cp)
  | sm (b : Nat) (l : N) (s : Nat) (a : Option Addr) (cp : Nat) (h1 : l.v ≤ cp) (h3 : cp = 0 ∨ ∃ L, β b = some L ∧ a = some (at' L.c L.base) ∧ cp * s ≤ L.room) : VRel β (.ref (.sm b l s)) (.slice a l.v cp)
  | sl (b : Nat) (o l : N) (cap : Option N) (a : Option Addr) (cp : Nat) (h1 : l.v ≤ cp) (h2 : ∀ C, cap = some C → C.v = cp)
      (h3 : cp = 0 ∨ ∃ L, β b = some L ∧ a = some (at' L.c (L.base + o.v)) ∧ o.v + cp ≤ L.room) : VRel β (.ref (.sl b o l cap)) (.slice a l.v cp)
  | agg (xs : List AV) (vs : List Value) (hl : xs.length = vs.length) (h : ∀ (i : Nat) x v, xs[i]? = some x → vs[i]? = some v → VRel β x v) : VRel β (.agg xs) (.agg ⟨vs⟩)
  | tup (xs : List AV) (vs : List Value) (hl : xs.length = vs.length) (h : ∀ (i : Nat) x v, xs[i]? = some x → vs[i]? = some v → VRel β x v) : VRel β (.obj .tup xs) (.tuple ⟨vs⟩)
  | ifc (t : Nat) (x : AV) (v : Value) (h : VRel β x v) : VRel β (.obj (.ifc t) [x]) (.iface t v)
  | fn (f : Fn) (n : Nat) (xs : List AV) (first captured : List Value) (hn : first.length = n) (hl : xs.length = (first ++ captured).length)
      (h : ∀ (i : Nat) x v, xs[i]? = some x → (first ++ captured)[i]? = some v → VRel β x v) : VRel β (.obj (.fn f n) xs) (.func f ⟨first⟩ ⟨captured⟩)

/-- Lists of values, one by one. -/
def LRel (β : Map) (xs : List AV) (vs : List Value) : Prop := xs.length = vs.length ∧ ∀ (i : Nat) x v, xs[i]? = some x → vs[i]? = some v → VRel β x v
theorem LRel.nil (β : Map) : LRel β [] [] := ⟨rfl, fun i x v h => by simp at h⟩
theorem LRel.cons {β : Map} {x : AV} {v : Value} {xs : List AV} {vs : List Value} (h : VRel β x v) (k : LRel β xs vs) : LRel β (x :: xs) (v :: vs) := by
  refine ⟨by simp [k.1], fun i y u hy hu => ?_⟩
  cases i with
  | zero => simp at hy hu; subst hy hu; exact h
  | succ i => simp at hy hu; exact k.2 i y u hy hu
theorem LRel.head {β : Map} {x : AV} {v : Value} {xs : List AV} {vs : List Value} (h : LRel β (x :: xs) (v :: vs)) : VRel β x v := h.2 0 x v rfl rfl
theorem LRel.tail {β : Map} {x : AV} {v : Value} {xs : List AV} {vs : List Value} (h : LRel β (x :: xs) (v :: vs)) : LRel β xs vs :=
  ⟨by simpa using h.1, fun i y u hy hu => h.2 (i + 1) y u (by simpa using hy) (by simpa using hu)⟩
theorem LRel.cons_inv {β : Map} {x : AV} {xs : List AV} {vs : List Value} (h : LRel β (x :: xs) vs) : ∃ v vs', vs = v :: vs' ∧ VRel β x v ∧ LRel β xs vs' := by
  cases vs with
  | nil => simp [LRel] at h
  | cons v vs' => exact ⟨v, vs', rfl, h.head, h.tail⟩
theorem LRel.nil_inv {β : Map} {vs : List Value} (h : LRel β [] vs) : vs = [] := by
  have := h.1; simp at this; exact List.eq_nil_of_length_eq_zero this.symm
theorem LRel.append {β : Map} {xs ys : List AV} {vs us : List Value} (h : LRel β xs vs) (k : LRel β ys us) : LRel β (xs ++ ys) (vs ++ us) := by
  induction xs generalizing vs with
  | nil => rw [h.nil_inv]; exact k
  | cons x xs ih =>
    obtain ⟨v, vs', rfl, h1, h2⟩ := h.cons_inv
    exact LRel.cons h1 (ih h2)
theorem LRel.get {β : Map} {xs : List AV} {vs : List Value} (h : LRel β xs vs) {i : Nat} {x : AV} (hx : xs[i]? = some x) : ∃ v, vs[i]? = some v ∧ VRel β x v := by
  have hi : i < xs.length := by
    rcases Nat.lt_or_ge i xs.length with h | h
    · exact h
    · simp [List.getElem?_eq_none h] at hx
  have hi' : i < vs.length := h.1 ▸ hi
  exact ⟨vs[i], by simp [hi'], h.2 i x _ hx (by simp [hi'])⟩
theorem LRel.drop {β : Map} {xs : List AV} {vs : List Value} (h : LRel β xs vs) (n : Nat) : LRel β (xs.drop n) (vs.drop n) :=
  ⟨by simp [h.1], fun i x v hx hv => h.2 (n + i) x v (by simpa using hx) (by simpa using hv)⟩
theorem LRel.take {β : Map} {xs : List AV} {vs : List Value} (h : LRel β xs vs) (n : Nat) : LRel β (xs.take n) (vs.take n) := by
  refine ⟨by simp [h.1], fun i x v hx hv => ?_⟩
  simp only [List.getElem?_take] at hx hv
  split at hx <;> simp_all
  exact h.2 i x v hx hv
theorem LRel.set {β : Map} {xs : List AV} {vs : List Value} {x : AV} {v : Value} (h : LRel β xs vs) (hx : VRel β x v) (n : Nat) : LRel β (xs.set n x) (vs.set n v) := by
  refine ⟨by simp [h.1], fun i y u hy hu => ?_⟩
  simp only [List.getElem?_set] at hy hu
  have := h.1
  split at hy
  · rename_i e
    simp only [e, if_true] at hu
    split at hy <;> simp_all
  · rename_i e
    simp only [e, if_false] at hu
    exact h.2 i y u hy hu
theorem LRel.replicate {β : Map} {xs : List AV} {vs : List Value} (h : LRel β xs vs) (n : Nat) : LRel β (List.replicate n xs).flatten (List.replicate n vs).flatten := by
  induction n with
  | zero => exact LRel.nil β
  | succ n ih => simp only [List.replicate_succ, List.flatten_cons]; exact h.append ih

theorem VRel.mono {β β' : Map} (hβ : Map.le β β') {x : AV} {v : Value} (h : VRel β x v) : VRel β' x v := by
  induction h with
  | undef v => exact .undef v
  | bool b => exact .bool b
  | str s => exact .str s
  | nilp => exact .nilp
  | nils => exact .nils
  | nili => exact .nili
  | nilf => exact .nilf
  | exact v => exact .exact v
  | num n => exact .num n
  | ptr b o L h => exact .ptr b o L (hβ b L h)
  | gp g o => exact .gp g o
  | gs g o l cp h => exact .gs g o l cp h
  | sm b l s a cp h1 h3 =>
    refine .sm b l s a cp h1 ?_
    rcases h3 with h | ⟨L, h, h'⟩
    · exact .inl h
    · exact .inr ⟨L, hβ b L h, h'⟩
  | sl b o l cap a cp h1 h2 h3 =>
    refine .sl b o l cap a cp h1 h2 ?_
    rcases h3 with h | ⟨L, h, h'⟩
    · exact .inl h
    · exact .inr ⟨L, hβ b L h, h'⟩
  | agg xs vs hl h ih => exact .agg xs vs hl ih
  | tup xs vs hl h ih => exact .tup xs vs hl ih
  | ifc t x v h ih => exact .ifc t x v ih
  | fn f n xs first captured hn hl h ih => exact .fn f n xs first captured hn hl ih
theorem LRel.mono {β β' : Map} (hβ : Map.le β β') {xs : List AV} {vs : List Value} (h : LRel β xs vs) : LRel β' xs vs := ⟨h.1, fun i x v hx hv => (h.2 i x v hx hv).mono hβ⟩
theorem VRel.of_n {β : Map} {x : AV} {v : Value} (h : NRel x v) : VRel β x v := by cases h <;> first | exact .num _ | exact .bool _
theorem VRel.aggL {β : Map} {xs : List AV} {vs : List Value} (h : LRel β xs vs) : VRel β (.agg xs) (.agg ⟨vs⟩) := .agg xs vs h.1 h.2
theorem VRel.tupL {β : Map} {xs : List AV} {vs : List Value} (h : LRel β xs vs) : VRel β (.obj .tup xs) (.tuple ⟨vs⟩) := .tup xs vs h.1 h.2
theorem VRel.agg_inv {β : Map} {xs : List AV} {v : Value} (h : VRel β (.agg xs) v) : ∃ vs, v = .agg ⟨vs⟩ ∧ LRel β xs vs := by
  cases h with | agg _ vs hl h => exact ⟨vs, rfl, hl, h⟩
theorem VRel.tup_inv {β : Map} {xs : List AV} {v : Value} (h : VRel β (.obj .tup xs) v) : ∃ vs, v = .tuple ⟨vs⟩ ∧ LRel β xs vs := by
  cases h with | tup _ vs hl h => exact ⟨vs, rfl, hl, h⟩
theorem VRel.num_inv {β : Map} {n : Num} {v : Value} (h : VRel β (.num n) v) : v = n.val := by cases h; rfl
theorem VRel.bool_inv {β : Map} {b : B} {v : Value} (h : VRel β (.atom (.bool b)) v) : v = .bool b.v := by cases h; rfl
theorem VRel.ptr_inv {β : Map} {b : Nat} {o : N} {v : Value} (h : VRel β (.ref (.ptr b o)) v) : ∃ L, β b = some L ∧ v = .pointer (some (at' L.c (L.base + o.v))) := by
  cases h with | ptr _ _ L h => exact ⟨L, h, rfl⟩
theorem VRel.gs_inv {β : Map} {g : Nat} {o l : N} {v : Value} (h : VRel β (.ref (.gs g o l)) v) : ∃ cp, v = .slice (some (gAt g o.v)) l.v cp ∧ l.v ≤ cp := by cases h; exact ⟨_, rfl, by assumption⟩
theorem VRel.sm_inv {β : Map} {b s : Nat} {l : N} {v : Value} (h : VRel β (.ref (.sm b l s)) v) :
    ∃ a cp, v = .slice a l.v cp ∧ l.v ≤ cp ∧ (cp = 0 ∨ ∃ L, β b = some L ∧ a = some (at' L.c L.base) ∧ cp * s ≤ L.room) := by
  cases h with | sm _ _ _ a cp h1 h3 => exact ⟨a, cp, rfl, h1, h3⟩
theorem VRel.gp_inv {β : Map} {g : Nat} {o : N} {v : Value} (h : VRel β (.ref (.gp g o)) v) : v = .pointer (some (gAt g o.v)) := by cases h; rfl
theorem VRel.sl_inv {β : Map} {b : Nat} {o l : N} {cap : Option N} {v : Value} (h : VRel β (.ref (.sl b o l cap)) v) :
    ∃ a cp, v = .slice a l.v cp ∧ l.v ≤ cp ∧ (∀ C, cap = some C → C.v = cp) ∧ (cp = 0 ∨ ∃ L, β b = some L ∧ a = some (at' L.c (L.base + o.v)) ∧ o.v + cp ≤ L.room) := by
  cases h with | sl _ _ _ _ a cp h1 h2 h3 => exact ⟨a, cp, rfl, h1, h2, h3⟩

/-- A constant. -/
theorem absV_rel (β : Map) : ∀ v : Value, VRel β (absV v) v := by
  intro v
  induction v using Value.rec (motive_2 := fun a => LRel β (absV.absL a.toList) a.toList) (motive_3 := fun l => LRel β (absV.absL l) l) with
  | bool b => exact .bool (.c b)
  | int k n => exact .num (.int k (.c n))
  | string s => exact .str s
  | pointer a => cases a <;> first | exact .nilp | exact .undef _
  | slice a l c =>
    cases a with
    | some a => exact .undef _
    | none =>
      cases l with
      | succ l => exact .undef _
      | zero =>
        cases c with
        | succ c => exact .undef _
        | zero => exact .nils
  | nilIface => exact .nili
  | nilFunc => exact .nilf
  | agg a ih => cases a; exact VRel.aggL ih
  | tuple a ih => cases a; exact VRel.tupL ih
  | mk l ih => exact ih
  | nil => exact LRel.nil β
  | cons x l ih1 ih2 => exact LRel.cons ih1 ih2
  | _ => exact .undef _

/-! Cells. -/
def Data.at (d : Data) (i : Nat) : Option AV :=
  match d with
  | .gen l => l[i]?
  | .b8 l => (l.l[i]?).map .w8
  | .b32 l => (l.l[i]?).map .w32
  | .b64 l => (l.l[i]?).map .w64
  | .spot n K x => ((List.replicate n (.atom .undef)).set K x)[i]?
  | .kn l t => (l.map AV.exact ++ t)[i]?
def Data.list (d : Data) : List AV :=
  match d with
  | .gen l => l
  | .b8 l => l.l.map .w8
  | .b32 l => l.l.map .w32
  | .b64 l => l.l.map .w64
  | .spot n K x => (List.replicate n (.atom .undef)).set K x
  | .kn l t => l.map AV.exact ++ t
theorem Data.list_at (d : Data) (i : Nat) : d.list[i]? = d.at i := by cases d <;> simp [Data.list, Data.at]
theorem Data.list_len (d : Data) : d.list.length = d.len := by cases d <;> simp [Data.list, Data.len, Vec.h]

theorem spot_get {n K : Nat} {x y : AV} {i : Nat} (h : ((List.replicate n (AV.atom .undef)).set K x)[i]? = some y) : y = .atom .undef ∨ (i = K ∧ y = x) := by
  rw [List.getElem?_set] at h
  split at h
  · rename_i e
    split at h
    · injection h with h; exact .inr ⟨e.symm, h.symm⟩
    · cases h
  · rw [List.getElem?_replicate] at h
    split at h
    · injection h with h; exact .inl h.symm
    · cases h
theorem pre_get {l : List Value} {t : List AV} {x : AV} {i : Nat} (h : (l.map AV.exact ++ t)[i]? = some x) : (∃ v, x = AV.exact v) ∨ ∃ j : Nat, t[j]? = some x := by
  rcases Nat.lt_or_ge i (l.map AV.exact).length with g | g
  · rw [List.getElem?_append_left g, List.getElem?_map, Option.map_eq_some_iff] at h
    obtain ⟨v, _, rfl⟩ := h
    exact .inl ⟨v, rfl⟩
  · rw [List.getElem?_append_right g] at h
    exact .inr ⟨_, h⟩
def Mode.alive (m : Mode) : Prop := m ≠ .dead
/-- The block's cells, read only: they read so. -/
def ROk (β : Map) (d : Data) (L : Loc) (w : World) : Prop :=
  L.c < w.heap.size ∧ d.len ≤ L.room ∧ ∀ (i : Nat) x, d.at i = some x → ∃ v, w.cell? (at' L.c (L.base + i)) = some v ∧ VRel β x v
/-- What of a row of n cells may be frozen: nothing, or the place behind it. -/
def FzOk (fz : Nat × Nat) (n : Nat) : Prop := fz = (0, 0) ∨ fz = (n, n + 1)
/-- The block is one of our own: the model's block holds these cells from its beginning on, and none of them is frozen. -/
def OOk (β : Map) (d : Data) (L : Loc) (w : World) : Prop :=
  L.base = 0 ∧ ∃ (vs : List Value) (t : TypeId) (fz : Nat × Nat), w.heap[L.c]? = some (.cells ⟨vs⟩ t fz) ∧ FzOk fz vs.length ∧ vs.length = L.room ∧ d.len ≤ L.room ∧ LRel β d.list (vs.take d.len)
def BRel (β : Map) (k : Blk) (L : Loc) (w : World) : Prop :=
  match k.mode with
  | .dead => True
  | .ro => ROk β k.data L w
  | .own => OOk β k.data L w
structure HRel (G : Nat → Option (List AV)) (β : Map) (H : List Blk) (w : World) : Prop where
  blk : ∀ (b : Nat) k, H[b]? = some k → k.mode.alive → (∃ L, β b = some L ∧ BRel β k L w) ∨ (k.data.len = 0 ∧ β b = none)
  dis : ∀ (b b' : Nat) k k' L L', b ≠ b' → H[b]? = some k → H[b']? = some k' → k.mode = .own → k'.mode.alive → β b = some L → β b' = some L' → L.c ≠ L'.c
  dom : ∀ b L, β b = some L → b < H.length
  glob : ∀ g l, G g = some l → gIx g < w.heap.size ∧ ∀ (i : Nat) x, l[i]? = some x → ∃ v, w.cell? (gAt g i) = some v ∧ VRel (fun _ => none) x v
  apart : ∀ (b : Nat) k L, H[b]? = some k → k.mode = .own → β b = some L → ∀ g l, G g = some l → gIx g ≠ L.c

/-- The model's blocks that are our own. -/
def Own (β : Map) (H : List Blk) (c : Nat) : Prop := ∃ (b : Nat) (k : Blk) (L : Loc), H[b]? = some k ∧ k.mode = .own ∧ β b = some L ∧ L.c = c
/-- What a step may do to the world. -/
structure Stp (β : Map) (H : List Blk) (w : World) (β' : Map) (H' : List Blk) (w' : World) : Prop where
  le : Map.le β β'
  len : H.length ≤ H'.length
  os : w'.os = w.os
  tape : w'.tape = w.tape
  output : w'.output = w.output
  size : w.heap.size ≤ w'.heap.size
  kept : ∀ c, c < w.heap.size → ¬ Own β H c → w'.heap[c]? = w.heap[c]?
  own : ∀ c, c < w.heap.size → Own β' H' c → Own β H c
  old : ∀ b, b < H.length → β' b = β b
theorem Stp.refl (β : Map) (H : List Blk) (w : World) : Stp β H w β H w := ⟨Map.le_refl β, Nat.le_refl _, rfl, rfl, rfl, Nat.le_refl _, fun _ _ _ => rfl, fun _ _ h => h, fun _ _ => rfl⟩
theorem Stp.trans {β β' β'' : Map} {H H' H'' : List Blk} {w w' w'' : World} (h : Stp β H w β' H' w') (k : Stp β' H' w' β'' H'' w'') : Stp β H w β'' H'' w'' where
  le := Map.le_trans h.le k.le
  len := Nat.le_trans h.len k.len
  os := k.os.trans h.os
  tape := k.tape.trans h.tape
  output := k.output.trans h.output
  size := Nat.le_trans h.size k.size
  kept c hc hn := (k.kept c (Nat.lt_of_lt_of_le hc h.size) (fun ho => hn (h.own c hc ho))).trans (h.kept c hc hn)
  own c hc ho := h.own c hc (k.own c (Nat.lt_of_lt_of_le hc h.size) ho)
  old b hb := (k.old b (Nat.lt_of_lt_of_le hb h.len)).trans (h.old b hb)
theorem Stp.drew (β : Map) (H : List Blk) (w : World) : Stp β H w β H w.drew := ⟨Map.le_refl β, Nat.le_refl _, rfl, rfl, rfl, Nat.le_refl _, fun _ _ _ => rfl, fun _ _ h => h, fun _ _ => rfl⟩
theorem HRel.drew {G : Nat → Option (List AV)} {β : Map} {H : List Blk} {w : World} (h : HRel G β H w) : HRel G β H w.drew := ⟨h.blk, h.dis, h.dom, h.glob, h.apart⟩

theorem lget_eq {α : Type} : ∀ (n : Nat) (l : List α), lget n l = l[n]?
  | 0, [] => rfl
  | n + 1, [] => rfl
  | 0, x :: r => rfl
  | n + 1, x :: r => by simp [lget, lget_eq n r]
theorem lset_eq {α : Type} (v : α) : ∀ (n : Nat) (l : List α), lset v n l = l.set n v
  | 0, [] => rfl
  | n + 1, [] => rfl
  | 0, x :: r => rfl
  | n + 1, x :: r => by simp [lset, lset_eq v n r]
theorem lput_eq {α : Type} (vs : List α) : ∀ (n : Nat) (l r : List α), lput vs n l = some r → n + vs.length ≤ l.length ∧ r = over l n vs
  | 0, l, r, h => by
    simp only [lput] at h
    cases hb : Nat.ble vs.length l.length <;> simp [hb] at h
    have : vs.length ≤ l.length := by simpa using hb
    exact ⟨by omega, by subst h; simp [over]⟩
  | n + 1, [], r, h => by simp [lput] at h
  | n + 1, x :: l, r, h => by
    simp only [lput] at h
    cases hr : lput vs n l with
    | none => simp [hr] at h
    | some r' =>
      simp [hr] at h
      obtain ⟨h1, h2⟩ := lput_eq vs n l r' hr
      subst h h2
      refine ⟨by simp; omega, ?_⟩
      simp [over, Nat.add_right_comm]
theorem lsub_eq {α : Type} (n : Nat) : ∀ (o : Nat) (l r : List α), lsub n o l = some r → o + n ≤ l.length ∧ r = (l.drop o).take n
  | 0, l, r, h => by
    simp only [lsub] at h
    cases hb : Nat.ble n l.length <;> simp [hb] at h
    have : n ≤ l.length := by simpa using hb
    exact ⟨by omega, by subst h; simp⟩
  | o + 1, [], r, h => by simp [lsub] at h
  | o + 1, x :: l, r, h => by
    simp only [lsub] at h
    obtain ⟨h1, h2⟩ := lsub_eq n o l r h
    exact ⟨by simp; omega, by simpa using h2⟩
end Go.Eng
/- Rows of cells as rows of words. -/
namespace Go.Eng
set_option linter.unusedSectionVars false
variable [RowAddr]
set_option linter.unusedSimpArgs false
set_option linter.unusedVariables false
section
variable {β : Map}
theorem mapOpt_rel8 {l : List AV} {xs : List (BitVec 8)} (h : mapOpt AV.bv8 l = some xs) {vs : List Value} (hv : LRel β l vs) : LRel β (xs.map .w8) vs := by
  induction l generalizing xs vs with
  | nil => simp [mapOpt] at h; subst h; exact hv
  | cons x l ih =>
    simp only [mapOpt] at h
    cases hx : AV.bv8 x with
    | none => simp [hx] at h
    | some y =>
      cases hr : mapOpt AV.bv8 l with
      | none => simp [hx, hr] at h
      | some ys =>
        simp [hx, hr] at h; subst h
        obtain ⟨v, vs', rfl, h1, h2⟩ := hv.cons_inv
        cases x <;> simp only [AV.bv8, reduceCtorEq] at hx
        have e := h1.num_inv
        rw [Num.bv8_spec hx] at e; subst e
        exact LRel.cons (VRel.of_n (.w8 y)) (ih hr h2)
theorem mapOpt_rel32 {l : List AV} {xs : List (BitVec 32)} (h : mapOpt AV.bv32 l = some xs) {vs : List Value} (hv : LRel β l vs) : LRel β (xs.map .w32) vs := by
  induction l generalizing xs vs with
  | nil => simp [mapOpt] at h; subst h; exact hv
  | cons x l ih =>
    simp only [mapOpt] at h
    cases hx : AV.bv32 x with
    | none => simp [hx] at h
    | some y =>
      cases hr : mapOpt AV.bv32 l with
      | none => simp [hx, hr] at h
      | some ys =>
        simp [hx, hr] at h; subst h
        obtain ⟨v, vs', rfl, h1, h2⟩ := hv.cons_inv
        cases x <;> simp only [AV.bv32, reduceCtorEq] at hx
        have e := h1.num_inv
        rw [Num.bv32_spec hx] at e; subst e
        exact LRel.cons (VRel.of_n (.w32 y)) (ih hr h2)
theorem mapOpt_rel64 {l : List AV} {xs : List (BitVec 64)} (h : mapOpt AV.bv64 l = some xs) {vs : List Value} (hv : LRel β l vs) : LRel β (xs.map .w64) vs := by
  induction l generalizing xs vs with
  | nil => simp [mapOpt] at h; subst h; exact hv
  | cons x l ih =>
    simp only [mapOpt] at h
    cases hx : AV.bv64 x with
    | none => simp [hx] at h
    | some y =>
      cases hr : mapOpt AV.bv64 l with
      | none => simp [hx, hr] at h
      | some ys =>
        simp [hx, hr] at h; subst h
        obtain ⟨v, vs', rfl, h1, h2⟩ := hv.cons_inv
        cases x <;> simp only [AV.bv64, reduceCtorEq] at hx
        have e := h1.num_inv
        rw [Num.bv64_spec hx] at e; subst e
        exact LRel.cons (VRel.of_n (.w64 y)) (ih hr h2)
theorem mapOpt_len {α γ : Type} {f : α → Option γ} {l : List α} {r : List γ} (h : mapOpt f l = some r) : r.length = l.length := by
  induction l generalizing r with
  | nil => simp [mapOpt] at h; subst h; rfl
  | cons x l ih =>
    simp only [mapOpt] at h
    cases h1 : f x with
    | none => simp [h1] at h
    | some y =>
      cases h2 : mapOpt f l with
      | none => simp [h1, h2] at h
      | some ys => simp [h1, h2] at h; subst h; simp [ih h2]
theorem as8_len {d : Data} {l : Vec 8} (h : d.as8 = some l) : l.n = d.len := by
  cases d <;> simp only [Data.as8, Option.map_eq_some_iff, Option.some.injEq, reduceCtorEq] at h
  · obtain ⟨a, ha, rfl⟩ := h; exact mapOpt_len ha
  · subst h; rfl
theorem as32_len {d : Data} {l : Vec 32} (h : d.as32 = some l) : l.n = d.len := by
  cases d <;> simp only [Data.as32, Option.map_eq_some_iff, Option.some.injEq, reduceCtorEq] at h
  · obtain ⟨a, ha, rfl⟩ := h; exact mapOpt_len ha
  · subst h; rfl
theorem as64_len {d : Data} {l : Vec 64} (h : d.as64 = some l) : l.n = d.len := by
  cases d <;> simp only [Data.as64, Option.map_eq_some_iff, Option.some.injEq, reduceCtorEq] at h
  · obtain ⟨a, ha, rfl⟩ := h; exact mapOpt_len ha
  · subst h; rfl
theorem as8_rel {d : Data} {xs : Vec 8} (h : d.as8 = some xs) {vs : List Value} (hv : LRel β d.list vs) : LRel β (xs.l.map .w8) vs := by
  cases d <;> simp only [Data.as8, Option.map_eq_some_iff, Option.some.injEq, reduceCtorEq] at h
  · obtain ⟨a, ha, rfl⟩ := h; exact mapOpt_rel8 ha hv
  · subst h; exact hv
theorem as32_rel {d : Data} {xs : Vec 32} (h : d.as32 = some xs) {vs : List Value} (hv : LRel β d.list vs) : LRel β (xs.l.map .w32) vs := by
  cases d <;> simp only [Data.as32, Option.map_eq_some_iff, Option.some.injEq, reduceCtorEq] at h
  · obtain ⟨a, ha, rfl⟩ := h; exact mapOpt_rel32 ha hv
  · subst h; exact hv
theorem as64_rel {d : Data} {xs : Vec 64} (h : d.as64 = some xs) {vs : List Value} (hv : LRel β d.list vs) : LRel β (xs.l.map .w64) vs := by
  cases d <;> simp only [Data.as64, Option.map_eq_some_iff, Option.some.injEq, reduceCtorEq] at h
  · obtain ⟨a, ha, rfl⟩ := h; exact mapOpt_rel64 ha hv
  · subst h; exact hv
end
theorem words_inv {d d' : Data} (h : d.words = some d') : (∃ v, d.as8 = some v ∧ d' = .b8 v) ∨ (∃ v, d.as32 = some v ∧ d' = .b32 v) ∨ (∃ v, d.as64 = some v ∧ d' = .b64 v) := by
  unfold Data.words at h
  split at h
  · split at h
    · rename_i v hv; injection h with h; exact .inl ⟨v, hv, h.symm⟩
    · split at h
      · rename_i v hv; injection h with h; exact .inr (.inl ⟨v, hv, h.symm⟩)
      · split at h
        · rename_i v hv; injection h with h; exact .inr (.inr ⟨v, hv, h.symm⟩)
        · cases h
  · cases h
theorem words_len {d d' : Data} (h : d.words = some d') : d'.len = d.len := by
  rcases words_inv h with ⟨v, k, rfl⟩ | ⟨v, k, rfl⟩ | ⟨v, k, rfl⟩
  · exact as8_len k
  · exact as32_len k
  · exact as64_len k
theorem words_rel {d d' : Data} (h : d.words = some d') {β : Map} {vs : List Value} (hv : LRel β d.list vs) : LRel β d'.list vs := by
  rcases words_inv h with ⟨v, k, rfl⟩ | ⟨v, k, rfl⟩ | ⟨v, k, rfl⟩
  · exact as8_rel k hv
  · exact as32_rel k hv
  · exact as64_rel k hv
theorem words_get {α γ : Type} {f : α → Option γ} {l : List α} {r : List γ} (h : mapOpt f l = some r) {i : Nat} {y : γ} (hy : r[i]? = some y) : ∃ x, l[i]? = some x ∧ f x = some y := by
  induction l generalizing r i with
  | nil => simp [mapOpt] at h; subst h; simp at hy
  | cons x l ih =>
    simp only [mapOpt] at h
    cases h1 : f x with
    | none => simp [h1] at h
    | some z =>
      cases h2 : mapOpt f l with
      | none => simp [h1, h2] at h
      | some zs =>
        simp [h1, h2] at h; subst h
        cases i with
        | zero => simp at hy; subst hy; exact ⟨x, rfl, h1⟩
        | succ i => simpa using ih h2 (by simpa using hy)
theorem words_at {d d' : Data} (h : d.words = some d') {i : Nat} {x' : AV} (hx : d'.at i = some x') : ∃ x, d.at i = some x ∧ ∀ (β : Map) v, VRel β x v → VRel β x' v := by
  cases d with
  | gen l =>
    rcases words_inv h with ⟨u, k, rfl⟩ | ⟨u, k, rfl⟩ | ⟨u, k, rfl⟩
    · simp only [Data.as8, Option.map_eq_some_iff] at k
      obtain ⟨r, hr, rfl⟩ := k
      simp only [Data.at, Vec.of, Option.map_eq_some_iff] at hx
      obtain ⟨y, hy, rfl⟩ := hx
      obtain ⟨x, h1, h2⟩ := words_get hr hy
      refine ⟨x, h1, fun β v hv => ?_⟩
      cases x <;> simp only [AV.bv8, reduceCtorEq] at h2
      rw [hv.num_inv, Num.bv8_spec h2]; exact .num (.w8 y)
    · simp only [Data.as32, Option.map_eq_some_iff] at k
      obtain ⟨r, hr, rfl⟩ := k
      simp only [Data.at, Vec.of, Option.map_eq_some_iff] at hx
      obtain ⟨y, hy, rfl⟩ := hx
      obtain ⟨x, h1, h2⟩ := words_get hr hy
      refine ⟨x, h1, fun β v hv => ?_⟩
      cases x <;> simp only [AV.bv32, reduceCtorEq] at h2
      rw [hv.num_inv, Num.bv32_spec h2]; exact .num (.w32 y)
    · simp only [Data.as64, Option.map_eq_some_iff] at k
      obtain ⟨r, hr, rfl⟩ := k
      simp only [Data.at, Vec.of, Option.map_eq_some_iff] at hx
      obtain ⟨y, hy, rfl⟩ := hx
      obtain ⟨x, h1, h2⟩ := words_get hr hy
      refine ⟨x, h1, fun β v hv => ?_⟩
      cases x <;> simp only [AV.bv64, reduceCtorEq] at h2
      rw [hv.num_inv, Num.bv64_spec h2]; exact .num (.w64 y)
  | _ => simp [Data.words] at h
/-! A row of bytes between other cells. -/
theorem skip8_eq : ∀ (l : List AV), (skip8 l).1 ++ (skip8 l).2 = l
  | [] => rfl
  | x :: r => by
    unfold skip8
    cases x.bv8 with
    | some _ => rfl
    | none => exact congrArg (x :: ·) (skip8_eq r)
theorem take8_eq : ∀ (l : List AV), ∃ cs, l = cs ++ (take8 l).2 ∧ mapOpt AV.bv8 cs = some (take8 l).1
  | [] => ⟨[], rfl, rfl⟩
  | x :: r => by
    unfold take8
    cases hx : x.bv8 with
    | none => exact ⟨[], rfl, rfl⟩
    | some w =>
      obtain ⟨cs, h1, h2⟩ := take8_eq r
      refine ⟨x :: cs, congrArg (x :: ·) h1, ?_⟩
      simp only [mapOpt, hx, h2]
theorem mid_eq {d : Data} {m : Mid} (h : d.mid = some m) : ∃ cs, d = .gen (m.pre ++ (cs ++ m.post)) ∧ mapOpt AV.bv8 cs = some m.row.l := by
  cases d with
  | gen l =>
    simp only [Data.mid, Option.some.injEq] at h
    subst h
    obtain ⟨cs, h1, h2⟩ := take8_eq (skip8 l).2
    refine ⟨cs, ?_, h2⟩
    show Data.gen l = Data.gen ((skip8 l).1 ++ (cs ++ (take8 (skip8 l).2).2))
    rw [← h1, skip8_eq]
  | _ => simp [Data.mid] at h
theorem cells8_eq (v : Vec 8) : cells8 v v.n = v.l.map .w8 := by
  have hv := v.h
  refine List.ext_getElem? fun i => ?_
  unfold cells8
  rw [List.getElem?_map, List.getElem?_map]
  rcases Nat.lt_or_ge i v.n with h | h
  · simp [h, show i < v.l.length by omega]
  · simp [h, show v.l.length ≤ i by omega]
theorem mid_len {d : Data} {m : Mid} (h : d.mid = some m) : d.len = m.pre.length + m.row.n + m.post.length := by
  obtain ⟨cs, rfl, h2⟩ := mid_eq h
  have h3 := mapOpt_len h2
  have h4 := m.row.h
  simp only [Data.len, List.length_append]; omega
theorem mid_rel {d : Data} {m : Mid} (h : d.mid = some m) {β : Map} {vs : List Value} (hv : LRel β d.list vs) : LRel β (m.pre ++ (m.row.l.map .w8 ++ m.post)) vs := by
  obtain ⟨cs, rfl, h2⟩ := mid_eq h
  have h3 := mapOpt_len h2
  have h4 := m.row.h
  have hl := hv.1
  simp only [Data.list, List.length_append] at hl
  have e : vs = vs.take m.pre.length ++ ((vs.drop m.pre.length).take cs.length ++ (vs.drop m.pre.length).drop cs.length) := by
    rw [List.take_append_drop, List.take_append_drop]
  have k1 := hv.take m.pre.length
  have k2 := (hv.drop m.pre.length).take cs.length
  have k3 := (hv.drop m.pre.length).drop cs.length
  simp only [Data.list] at k1 k2 k3
  rw [List.take_left'  rfl] at k1
  rw [List.drop_left' rfl, List.take_left' rfl] at k2
  rw [List.drop_left' rfl, List.drop_left' rfl] at k3
  rw [e]
  exact k1.append ((mapOpt_rel8 h2 k2).append k3)
theorem mid_at {d : Data} {m : Mid} (h : d.mid = some m) {i : Nat} {y : BitVec 8} (hy : m.row.l[i]? = some y) : ∃ x, d.at (m.pre.length + i) = some x ∧ ∀ (β : Map) v, VRel β x v → VRel β (.w8 y) v := by
  obtain ⟨cs, rfl, h2⟩ := mid_eq h
  obtain ⟨x, h3, h4⟩ := words_get h2 hy
  refine ⟨x, ?_, fun β v hv => ?_⟩
  · show (m.pre ++ (cs ++ m.post))[m.pre.length + i]? = _
    rw [List.getElem?_append_right (by omega), Nat.add_sub_cancel_left, List.getElem?_append_left (by
      rcases Nat.lt_or_ge i cs.length with h | h
      · exact h
      · rw [List.getElem?_eq_none h] at h3; cases h3)]
    exact h3
  · cases x <;> simp only [AV.bv8, reduceCtorEq] at h4
    rw [hv.num_inv, Num.bv8_spec h4]; exact .num (.w8 y)
theorem put_list {m : Mid} {v : Vec 8} (hv : v.n = m.row.n) : (m.put v).list = m.pre ++ (v.l.map .w8 ++ m.post) := by
  show m.pre ++ (cells8 v m.row.n ++ m.post) = _
  rw [← hv, cells8_eq]
theorem put_len {d : Data} {m : Mid} (h : d.mid = some m) {v : Vec 8} (hv : v.n = m.row.n) : (m.put v).len = d.len := by
  rw [mid_len h, ← Data.list_len, put_list hv]
  have := v.h
  simp only [List.length_append, List.length_map]; omega
theorem cells0_spec {d : Data} {n : Nat} {o : N} {S S' : St} {l : List AV} (h : d.cells0 n o S = some (l, S')) : Pure S S' ∧ (S'.ok → o.v + n ≤ d.len ∧ l.length = n ∧ ∀ (j : Nat) x, j < n → l[j]? = some x → d.at (o.v + j) = some x) := by
  cases d with
  | gen d =>
    cases o with
    | s _ => simp [Data.cells0] at h
    | c o =>
      simp only [Data.cells0, Option.map_eq_some_iff, Prod.mk.injEq] at h
      obtain ⟨l', h, rfl, rfl⟩ := h
      obtain ⟨h1, rfl⟩ := lsub_eq _ _ _ _ h
      refine ⟨Pure.refl _, fun _ => ⟨h1, by simp; omega, fun j x hj hx => ?_⟩⟩
      simp only [List.getElem?_take, hj, if_true, List.getElem?_drop] at hx
      exact hx
  | b8 v =>
    simp only [Data.cells0, Option.some.injEq, Prod.mk.injEq] at h
    obtain ⟨rfl, rfl⟩ := h
    refine ⟨demand_pure _ _, fun o' => ?_⟩
    have hd := of_decide_eq_true (demand_ok o')
    have hv := v.h
    refine ⟨hd, by simp, fun j x hj hx => ?_⟩
    simp [hj] at hx
    simp [Data.at, show o.v + j < v.l.length by omega] at hx ⊢
    exact hx
  | b32 v =>
    simp only [Data.cells0, Option.some.injEq, Prod.mk.injEq] at h
    obtain ⟨rfl, rfl⟩ := h
    refine ⟨demand_pure _ _, fun o' => ?_⟩
    have hd := of_decide_eq_true (demand_ok o')
    have hv := v.h
    refine ⟨hd, by simp, fun j x hj hx => ?_⟩
    simp [hj] at hx
    simp [Data.at, show o.v + j < v.l.length by omega] at hx ⊢
    exact hx
  | b64 v =>
    simp only [Data.cells0, Option.some.injEq, Prod.mk.injEq] at h
    obtain ⟨rfl, rfl⟩ := h
    refine ⟨demand_pure _ _, fun o' => ?_⟩
    have hd := of_decide_eq_true (demand_ok o')
    have hv := v.h
    refine ⟨hd, by simp, fun j x hj hx => ?_⟩
    simp [hj] at hx
    simp [Data.at, show o.v + j < v.l.length by omega] at hx ⊢
    exact hx
  | spot _ _ _ => simp [Data.cells0] at h
  | kn _ _ => simp [Data.cells0] at h
theorem cells_spec {d : Data} {n : Nat} {o : N} {S S' : St} {l : List AV} (h : d.cells n o S = some (l, S')) : Pure S S' ∧ (S'.ok → o.v + n ≤ d.len ∧ l.length = n ∧ ∀ (j : Nat) x, j < n → l[j]? = some x → ∃ y, d.at (o.v + j) = some y ∧ ∀ (β : Map) v, VRel β y v → VRel β x v) := by
  unfold Data.cells at h
  split at h
  · rename_i r hr
    injection h with h; subst h
    obtain ⟨h1, h2⟩ := cells0_spec hr
    refine ⟨h1, fun ok => ?_⟩
    obtain ⟨g1, g2, g3⟩ := h2 ok
    exact ⟨g1, g2, fun j x hj hx => ⟨x, g3 j x hj hx, fun _ _ h => h⟩⟩
  · split at h
    · rename_i d' hd
      obtain ⟨h1, h2⟩ := cells0_spec h
      refine ⟨h1, fun ok => ?_⟩
      obtain ⟨g1, g2, g3⟩ := h2 ok
      exact ⟨by rw [← words_len hd]; exact g1, g2, fun j x hj hx => words_at hd (g3 j x hj hx)⟩
    · cases h
end Go.Eng
/- Memory: reading, writing, new blocks. -/
namespace Go.Eng
set_option linter.unusedSectionVars false
variable [RowAddr]
set_option linter.unusedSimpArgs false
set_option linter.unusedVariables false
section
variable {P : Program} {G : Nat → Option (List AV)} {β : Map} {H : List Blk} {w : World}

theorem cell_own {c o : Nat} {vs : List Value} {t : TypeId} {fr : Nat × Nat} (h : w.heap[c]? = some (.cells ⟨vs⟩ t fr)) : w.cell? (at' c o) = vs[o]? := by
  simp [World.cell?, at', h]
/-- A live block's cell reads as it should. -/
theorem BRel.cell {k : Blk} {L : Loc} (hb : BRel β k L w) (ha : k.mode.alive) {i : Nat} {x : AV} (hx : k.data.at i = some x) :
    ∃ v, w.cell? (at' L.c (L.base + i)) = some v ∧ VRel β x v := by
  obtain ⟨d, m⟩ := k
  cases m with
  | dead => exact absurd rfl ha
  | ro => exact hb.2.2 i x hx
  | own =>
    obtain ⟨h0, vs, t, fz, hh, hfz, hl, hd, hr⟩ := hb
    simp only at hx hd hr
    rw [← Data.list_at] at hx
    obtain ⟨v, hv, hv'⟩ := hr.get hx
    refine ⟨v, ?_, hv'⟩
    rw [h0, Nat.zero_add, cell_own hh]
    rw [List.getElem?_take] at hv
    split at hv <;> simp_all
theorem at_len {d : Data} {i : Nat} {x : AV} (h : d.at i = some x) : i < d.len := by
  rw [← Data.list_at] at h
  rw [← Data.list_len]
  rcases Nat.lt_or_ge i d.list.length with h' | h'
  · exact h'
  · simp [List.getElem?_eq_none h'] at h
theorem St.read_spec {S : St} {b : Nat} {d : Data} (h : S.read b = some d) : ∃ m : Mode, S.H[b]? = some ⟨d, m⟩ ∧ m.alive := by
  unfold St.read at h
  rw [lget_eq] at h
  cases hb : S.H[b]? with
  | none => simp [hb] at h
  | some k =>
    obtain ⟨d', m⟩ := k
    rw [hb] at h
    cases m <;> simp at h <;> subst h <;> exact ⟨_, rfl, by intro h; cases h⟩

theorem Data.get0_spec {d : Data} {o : N} {S S' : St} {x : AV} (h : d.get0 o S = some (x, S')) : Pure S S' ∧ (S'.ok → d.at o.v = some x) := by
  cases d with
  | gen l =>
    cases o <;> simp [Data.get0] at h
    obtain ⟨a, ha, rfl, rfl⟩ := h
    rw [lget_eq] at ha
    exact ⟨Pure.refl _, fun _ => ha⟩
  | b8 l =>
    simp only [Data.get0, Option.some.injEq, Prod.mk.injEq] at h
    obtain ⟨rfl, rfl⟩ := h
    refine ⟨demand_pure _ _, fun o' => ?_⟩
    have hd := of_decide_eq_true (demand_ok o')
    have hl := l.h
    simp [Data.at, show o.v < l.l.length by omega]
  | b32 l =>
    simp only [Data.get0, Option.some.injEq, Prod.mk.injEq] at h
    obtain ⟨rfl, rfl⟩ := h
    refine ⟨demand_pure _ _, fun o' => ?_⟩
    have hd := of_decide_eq_true (demand_ok o')
    have hl := l.h
    simp [Data.at, show o.v < l.l.length by omega]
  | b64 l =>
    simp only [Data.get0, Option.some.injEq, Prod.mk.injEq] at h
    obtain ⟨rfl, rfl⟩ := h
    refine ⟨demand_pure _ _, fun o' => ?_⟩
    have hd := of_decide_eq_true (demand_ok o')
    have hl := l.h
    simp [Data.at, show o.v < l.l.length by omega]
  | kn _ _ => simp [Data.get0] at h
  | spot n K y =>
    simp only [Data.get0, Option.some.injEq, Prod.mk.injEq] at h
    obtain ⟨rfl, rfl⟩ := h
    refine ⟨demand_pure _ _, fun o' => ?_⟩
    obtain ⟨h1, h2⟩ := of_decide_eq_true (demand_ok o')
    rw [h1]
    simp [Data.at, h2]

theorem Data.get1_spec {d : Data} {o : N} {S S' : St} {x : AV} (h : d.get1 o S = some (x, S')) : Pure S S' ∧ (S'.ok → ∃ y, d.at o.v = some y ∧ ∀ (β : Map) v, VRel β y v → VRel β x v) := by
  unfold Data.get1 at h
  split at h
  · rename_i m hm
    simp only [Option.some.injEq, Prod.mk.injEq] at h
    obtain ⟨rfl, rfl⟩ := h
    refine ⟨demand_pure _ _, fun o' => ?_⟩
    have hd := of_decide_eq_true (demand_ok o')
    have hr := m.row.h
    obtain ⟨y, h1, h2⟩ := mid_at hm (i := o.v - m.pre.length) (y := m.row.l.getD (o.v - m.pre.length) 0#8) (by simp [show o.v - m.pre.length < m.row.l.length by omega])
    exact ⟨y, by rw [show o.v = m.pre.length + (o.v - m.pre.length) by omega]; exact h1, h2⟩
  · cases h
theorem Data.get_spec {d : Data} {o : N} {S S' : St} {x : AV} (h : d.get o S = some (x, S')) : Pure S S' ∧ (S'.ok → ∃ y, d.at o.v = some y ∧ ∀ (β : Map) v, VRel β y v → VRel β x v) := by
  unfold Data.get at h
  split at h
  · rename_i r hr
    injection h with h; subst h
    obtain ⟨h1, h2⟩ := Data.get0_spec hr
    exact ⟨h1, fun ok => ⟨x, h2 ok, fun _ _ h => h⟩⟩
  · split at h
    · rename_i d' hd
      obtain ⟨h1, h2⟩ := Data.get0_spec h
      exact ⟨h1, fun ok => words_at hd (h2 ok)⟩
    · exact Data.get1_spec h
/-- A cell behind an address. -/
theorem readCell_spec {a x : AV} {va : Value} {S S' : St} (hH : HRel G β S.H w) (ha : VRel β a va) (h : readCell G a S = some (x, S')) :
    Pure S S' ∧ (S'.ok → ∃ p v, va = .pointer (some p) ∧ w.cell? p = some v ∧ VRel β x v) := by
  unfold readCell at h
  split at h
  · rename_i b o
    obtain ⟨L, hL, rfl⟩ := ha.ptr_inv
    cases hr : S.read b with
    | none => simp [hr] at h
    | some d =>
      simp only [hr] at h
      obtain ⟨hp, hx⟩ := Data.get_spec h
      refine ⟨hp, fun ok => ?_⟩
      obtain ⟨y, hx, hxy⟩ := hx ok
      obtain ⟨m, hb, hm⟩ := St.read_spec hr
      rcases hH.blk b _ hb hm with ⟨L', hL', hbr⟩ | ⟨_, hn⟩
      · rw [hL] at hL'; injection hL' with e; subst e
        obtain ⟨v, hv, hv'⟩ := hbr.cell hm hx
        exact ⟨_, v, rfl, hv, hxy _ _ hv'⟩
      · rw [hL] at hn; cases hn
  · rename_i g o
    rw [ha.gp_inv]
    cases hg : G g with
    | none => simp [hg] at h
    | some l =>
      simp only [hg] at h
      obtain ⟨hp, hx⟩ := Data.get_spec h
      refine ⟨hp, fun ok => ?_⟩
      obtain ⟨y, hx, hxy⟩ := hx ok
      obtain ⟨v, hv, hv'⟩ := (hH.glob g l hg).2 _ y hx
      exact ⟨_, v, rfl, hv, (hxy _ _ hv').mono (fun _ _ h => by cases h)⟩
  · cases h

theorem add_at (c o n : Nat) : (at' c o).add n = at' c (o + n) := by
  unfold Addr.add at'; split <;> simp_all
theorem gAt_add (k o n : Nat) : (gAt k o).add n = gAt k (o + n) := by
  obtain ⟨b, hb⟩ := gAt_eq k
  rw [hb, hb, add_at, Nat.add_assoc]
/-- A row of cells behind an address. -/
theorem readCells_spec {a : AV} {va : Value} {S S' : St} {n : Nat} {l : List AV} (hH : HRel G β S.H w) (ha : VRel β a va) (h : readCells G a n S = some (l, S')) :
    Pure S S' ∧ (S'.ok → ∃ p vs, va = .pointer (some p) ∧ LRel β l vs ∧ l.length = n ∧ ∀ (j : Nat) v, vs[j]? = some v → w.cell? (p.add j) = some v) := by
  have key : ∀ (f : Nat → Option AV) (p : Addr) (l : List AV), l.length = n → (∀ j, j < n → ∃ v, w.cell? (p.add j) = some v ∧ ∀ x, l[j]? = some x → VRel β x v) →
      ∃ vs, LRel β l vs ∧ ∀ (j : Nat) v, vs[j]? = some v → w.cell? (p.add j) = some v := by
    intro f p l hl hj
    refine ⟨(List.range n).map fun j => (w.cell? (p.add j)).getD undef, ⟨by simp [hl], ?_⟩, ?_⟩
    · intro j x v hx hv
      rcases Nat.lt_or_ge j n with hjn | hjn
      · obtain ⟨u, hu, hxu⟩ := hj j hjn
        simp [hjn, hu] at hv
        subst hv
        exact hxu x hx
      · rw [List.getElem?_eq_none (by omega)] at hx; cases hx
    · intro j v hv
      rcases Nat.lt_or_ge j n with hjn | hjn
      · obtain ⟨u, hu, _⟩ := hj j hjn
        simp [hjn, hu] at hv
        rw [hu, hv]
      · simp [show ¬ j < n by omega] at hv
  unfold readCells at h
  split at h
  · rename_i b o
    obtain ⟨L, hL, rfl⟩ := ha.ptr_inv
    cases hr : S.read b with
    | none => simp [hr] at h
    | some d =>
      simp only [hr] at h
      obtain ⟨hp, hcs⟩ := cells_spec h
      refine ⟨hp, fun ok => ?_⟩
      obtain ⟨h1, hlen, hat⟩ := hcs ok
      obtain ⟨m, hb, hm⟩ := St.read_spec hr
      have hk : ∀ j, j < n → ∃ v, w.cell? ((at' L.c (L.base + o.v)).add j) = some v ∧ ∀ x, l[j]? = some x → VRel β x v := by
        intro j hj
        rcases hH.blk b _ hb hm with ⟨L', hL', hbr⟩ | ⟨hz, hn⟩
        · rw [hL] at hL'; injection hL' with e; subst e
          have hlj : l[j]? = some l[j] := List.getElem?_eq_getElem (by omega)
          obtain ⟨y, hy, hyx⟩ := hat j _ hj hlj
          obtain ⟨v, hv, hv'⟩ := hbr.cell hm hy
          refine ⟨v, by rw [add_at, Nat.add_assoc]; exact hv, fun x hx' => ?_⟩
          rw [hlj] at hx'; injection hx' with hx'; subst hx'; exact hyx _ _ hv'
        · rw [hL] at hn; cases hn
      obtain ⟨vs, h3, h4⟩ := key (fun _ => none) (at' L.c (L.base + o.v)) _ hlen hk
      exact ⟨_, vs, rfl, h3, hlen, h4⟩
  · rename_i g o
    rw [ha.gp_inv]
    cases o with
    | s _ => simp at h
    | c o =>
      simp only at h
      cases n with
      | zero =>
        simp only [Option.some.injEq, Prod.mk.injEq] at h
        obtain ⟨rfl, rfl⟩ := h
        exact ⟨Pure.refl _, fun _ => ⟨_, [], rfl, LRel.nil β, rfl, fun j v hv => by simp at hv⟩⟩
      | succ n =>
        simp only at h
        cases hg : G g with
        | none => simp [hg] at h
        | some d =>
          simp only [hg, Option.map_eq_some_iff, Prod.mk.injEq] at h
          obtain ⟨l', h, rfl, rfl⟩ := h
          obtain ⟨h1, rfl⟩ := lsub_eq _ _ _ _ h
          have hlen : ((d.drop o).take (n + 1)).length = n + 1 := by simp; omega
          have hk : ∀ j, j < n + 1 → ∃ v, w.cell? ((gAt g o).add j) = some v ∧ ∀ x, ((d.drop o).take (n + 1))[j]? = some x → VRel β x v := by
            intro j hj
            obtain ⟨v, hv, hv'⟩ := (hH.glob g d hg).2 (o + j) d[o + j] (by simp [show o + j < d.length by omega])
            refine ⟨v, by rw [gAt_add]; exact hv, fun x hx' => ?_⟩
            have : x = d[o + j] := by
              simp [hj, show o + j < d.length by omega] at hx'
              exact hx'.symm
            rw [this]; exact hv'.mono (fun _ _ h => by cases h)
          obtain ⟨vs, h3, h4⟩ := key (fun _ => none) (gAt g o) _ hlen hk
          exact ⟨Pure.refl _, fun _ => ⟨_, vs, rfl, h3, hlen, h4⟩⟩
  · cases h

/-! A new block. -/
def Map.put (β : Map) (b : Nat) (L : Loc) : Map := fun x => if x = b then some L else β x
theorem Map.put_le {β : Map} {b : Nat} {L : Loc} (h : β b = none) : Map.le β (β.put b L) := by
  intro x L' hx
  unfold Map.put
  split
  · rename_i e; subst e; rw [h] at hx; cases hx
  · exact hx
theorem Map.put_same (β : Map) (b : Nat) (L : Loc) : β.put b L b = some L := by simp [Map.put]
theorem Map.put_ne {β : Map} {b x : Nat} {L : Loc} (h : x ≠ b) : β.put b L x = β x := by simp [Map.put, h]
theorem HRel.none_at (h : HRel G β H w) : β H.length = none := by
  cases hb : β H.length with
  | none => rfl
  | some L => exact absurd (h.dom _ L hb) (by omega)
theorem ROk.mono {β' : Map} {d : Data} {L : Loc} {w' : World} (hβ : Map.le β β') (h : ROk β d L w) (hs : w.heap.size ≤ w'.heap.size) (hk : w'.heap[L.c]? = w.heap[L.c]?) : ROk β' d L w' :=
  ⟨Nat.lt_of_lt_of_le h.1 hs, h.2.1, fun i x hx => by
    obtain ⟨v, hv, hv'⟩ := h.2.2 i x hx
    exact ⟨v, by rw [World.cell?_of_block (w := w) (a := at' L.c (L.base + i)) hk]; exact hv, hv'.mono hβ⟩⟩
theorem OOk.mono {β' : Map} {d : Data} {L : Loc} {w' : World} (hβ : Map.le β β') (h : OOk β d L w) (hk : w'.heap[L.c]? = w.heap[L.c]?) : OOk β' d L w' := by
  obtain ⟨h0, vs, t, fz, hh, hf, hl, hd, hr⟩ := h
  exact ⟨h0, vs, t, fz, by rw [hk]; exact hh, hf, hl, hd, hr.mono hβ⟩
theorem BRel.mono {β' : Map} {k : Blk} {L : Loc} {w' : World} (hβ : Map.le β β') (h : BRel β k L w) (hs : w.heap.size ≤ w'.heap.size) (hk : w'.heap[L.c]? = w.heap[L.c]?) : BRel β' k L w' := by
  obtain ⟨d, m⟩ := k
  cases m
  · exact ROk.mono hβ h hs hk
  · exact OOk.mono hβ h hk
  · trivial
theorem BRel.lt {k : Blk} {L : Loc} (h : BRel β k L w) (ha : k.mode.alive) : L.c < w.heap.size := by
  obtain ⟨d, m⟩ := k
  cases m
  · exact h.1
  · obtain ⟨_, vs, t, fz, hh, _⟩ := h
    exact (Array.getElem?_eq_some_iff.1 hh).1
  · exact absurd rfl ha
theorem BRel.room {k : Blk} {L : Loc} (h : BRel β k L w) (ha : k.mode.alive) : k.data.len ≤ L.room := by
  obtain ⟨d, m⟩ := k
  cases m
  · exact h.2.1
  · obtain ⟨_, vs, t, fz, hh, _, _, hd, _⟩ := h
    exact hd
  · exact absurd rfl ha
theorem HRel.room (h : HRel G β H w) {b : Nat} {k : Blk} {L : Loc} (hb : H[b]? = some k) (ha : k.mode.alive) (hL : β b = some L) : k.data.len ≤ L.room := by
  rcases h.blk b k hb ha with ⟨L', hL', hbr⟩ | ⟨_, hn⟩
  · rw [hL] at hL'; injection hL' with e; subst e; exact hbr.room ha
  · rw [hL] at hn; cases hn
theorem HRel.lt (h : HRel G β H w) {b : Nat} {k : Blk} {L : Loc} (hb : H[b]? = some k) (ha : k.mode.alive) (hL : β b = some L) : L.c < w.heap.size := by
  rcases h.blk b k hb ha with ⟨L', hL', hbr⟩ | ⟨_, hn⟩
  · rw [hL] at hL'; injection hL' with e; subst e; exact hbr.lt ha
  · rw [hL] at hn; cases hn
theorem own_alive {k : Blk} (h : k.mode = .own) : k.mode.alive := by rw [h]; intro h; cases h

theorem HRel.new (hH : HRel G β H w) (d : Data) (vs : List Value) (t : TypeId) (hd : d.len ≤ vs.length) (hr : LRel β d.list (vs.take d.len)) :
    HRel G (β.put H.length ⟨w.heap.size, 0, vs.length⟩) (H ++ [⟨d, .own⟩]) (w.alloc (.cells ⟨vs⟩ t)) ∧
    Stp β H w (β.put H.length ⟨w.heap.size, 0, vs.length⟩) (H ++ [⟨d, .own⟩]) (w.alloc (.cells ⟨vs⟩ t)) := by
  have hle := Map.put_le (L := ⟨w.heap.size, 0, vs.length⟩) hH.none_at
  have hold : ∀ c, c < w.heap.size → (w.alloc (.cells ⟨vs⟩ t)).heap[c]? = w.heap[c]? := fun c hc => RowKit.Below.heap_alloc w _ c hc
  have hnew : (w.alloc (.cells ⟨vs⟩ t)).heap[w.heap.size]? = some (.cells ⟨vs⟩ t (0, 0)) := by
    show (w.heap.push _)[w.heap.size]? = _
    simp
  have hsz : (w.alloc (.cells ⟨vs⟩ t)).heap.size = w.heap.size + 1 := by
    show (w.heap.push _).size = _
    simp
  have hb : ∀ (b : Nat) k, (H ++ [⟨d, .own⟩])[b]? = some k → (b < H.length ∧ H[b]? = some k) ∨ (b = H.length ∧ k = ⟨d, .own⟩) := by
    intro b k hk
    rcases Nat.lt_trichotomy b H.length with h | h | h
    · rw [List.getElem?_append_left h] at hk; exact .inl ⟨h, hk⟩
    · subst h; simp at hk; exact .inr ⟨rfl, hk.symm⟩
    · rw [List.getElem?_append_right (by omega)] at hk
      rw [List.getElem?_eq_none (by simp; omega)] at hk; cases hk
  refine ⟨⟨?_, ?_, ?_, ?_, ?_⟩, ⟨hle, by simp, rfl, rfl, rfl, by omega, fun c hc _ => hold c hc, ?_, fun b hb => Map.put_ne (by omega)⟩⟩
  · intro b k hk ha
    rcases hb b k hk with ⟨h, hk⟩ | ⟨rfl, rfl⟩
    · rcases hH.blk b k hk ha with ⟨L, hL, hbr⟩ | ⟨h2, h3⟩
      · exact .inl ⟨L, hle b L hL, hbr.mono hle (by omega) (hold _ (hbr.lt ha))⟩
      · exact .inr ⟨h2, by rw [Map.put_ne (by omega)]; exact h3⟩
    · exact .inl ⟨_, Map.put_same .., rfl, vs, t, (0, 0), hnew, .inl rfl, rfl, hd, hr.mono hle⟩
  · intro b b' k k' L L' hne hk hk' ho ha hL hL'
    rcases hb b k hk with ⟨h, hk⟩ | ⟨rfl, rfl⟩
    · rw [Map.put_ne (by omega)] at hL
      rcases hb b' k' hk' with ⟨h', hk'⟩ | ⟨rfl, rfl⟩
      · rw [Map.put_ne (by omega)] at hL'
        exact hH.dis b b' k k' L L' hne hk hk' ho ha hL hL'
      · rw [Map.put_same] at hL'; injection hL' with e; subst e
        have := hH.lt hk (own_alive ho) hL
        simp only; omega
    · rw [Map.put_same] at hL; injection hL with e; subst e
      rcases hb b' k' hk' with ⟨h', hk'⟩ | ⟨rfl, rfl⟩
      · rw [Map.put_ne (by omega)] at hL'
        have := hH.lt hk' ha hL'
        simp only; omega
      · exact absurd rfl hne
  · intro b L hL
    simp only [List.length_append, List.length_cons, List.length_nil]
    by_cases e : b = H.length
    · omega
    · rw [Map.put_ne e] at hL; have := hH.dom b L hL; omega
  · intro g l hg
    obtain ⟨h1, h2⟩ := hH.glob g l hg
    refine ⟨by omega, fun i x hx => ?_⟩
    obtain ⟨v, hv, hv'⟩ := h2 i x hx
    obtain ⟨b0, hb0⟩ := gAt_eq g
    exact ⟨v, by rw [hb0] at hv ⊢; rw [World.cell?_of_block (w := w) (a := at' (gIx g) (b0 + i)) (hold _ h1)]; exact hv, hv'⟩
  · intro b k L hk ho hL
    rcases hb b k hk with ⟨h, hk⟩ | ⟨rfl, rfl⟩
    · rw [Map.put_ne (by omega)] at hL; exact hH.apart b k L hk ho hL
    · rw [Map.put_same] at hL; injection hL with e; subst e
      intro g l hg
      have := (hH.glob _ l hg).1
      simp only; omega
  · intro c hc ⟨b, k, L, hk, ho, hL, hLc⟩
    rcases hb b k hk with ⟨h, hk⟩ | ⟨rfl, rfl⟩
    · rw [Map.put_ne (by omega)] at hL; exact ⟨b, k, L, hk, ho, hL, hLc⟩
    · rw [Map.put_same] at hL; injection hL with e; subst e; simp only at hLc; omega

/-! A block of our own is written. -/
theorem HRel.write (hH : HRel G β H w) {b : Nat} {d d' : Data} {L : Loc} (hb : H[b]? = some ⟨d, .own⟩) (hL : β b = some L) (vs' : List Value)
    (hl : vs'.length = L.room) (hd : d'.len ≤ L.room) (hr : LRel β d'.list (vs'.take d'.len)) :
    HRel G β (H.set b ⟨d', .own⟩) (w.setRow L.c ⟨vs'⟩) ∧ Stp β H w β (H.set b ⟨d', .own⟩) (w.setRow L.c ⟨vs'⟩) := by
  have hblt : b < H.length := by
    rcases Nat.lt_or_ge b H.length with h | h
    · exact h
    · simp [List.getElem?_eq_none h] at hb
  have hob : OOk β d L w := by
    rcases hH.blk b _ hb (own_alive rfl) with ⟨L', hL', hbr⟩ | ⟨_, hn⟩
    · rw [hL] at hL'; injection hL' with e; subst e; exact hbr
    · rw [hL] at hn; cases hn
  obtain ⟨h0, vs, t, fz, hh, hfz, hvl, hdl, hrr⟩ := hob
  have hget : ∀ (x : Nat) k, (H.set b ⟨d', .own⟩)[x]? = some k → (x = b ∧ k = ⟨d', .own⟩) ∨ (x ≠ b ∧ H[x]? = some k) := by
    intro x k hk
    by_cases e : x = b
    · subst e; rw [List.getElem?_set_self hblt] at hk; injection hk with hk; exact .inl ⟨rfl, hk.symm⟩
    · rw [List.getElem?_set_ne (Ne.symm e)] at hk; exact .inr ⟨e, hk⟩
  have hnew := setRow_heap w L.c ⟨vs⟩ ⟨vs'⟩ t fz hh
  have hother : ∀ c, c ≠ L.c → (w.setRow L.c ⟨vs'⟩).heap[c]? = w.heap[c]? := fun c hc => setRow_other w L.c c _ hc
  refine ⟨⟨?_, ?_, ?_, ?_, ?_⟩, ⟨Map.le_refl β, by simp, rfl, rfl, rfl, by simp, ?_, ?_, fun _ _ => rfl⟩⟩
  · intro x k hk ha
    rcases hget x k hk with ⟨rfl, rfl⟩ | ⟨hx, hk⟩
    · exact .inl ⟨L, hL, h0, vs', t, fz, hnew, by rw [hl, ← hvl]; exact hfz, hl, hd, hr⟩
    · rcases hH.blk x k hk ha with ⟨L', hL', hbr⟩ | h
      · refine .inl ⟨L', hL', hbr.mono (Map.le_refl β) (by simp) (hother _ ?_)⟩
        exact (hH.dis b x _ k L L' (Ne.symm hx) hb hk rfl ha hL hL').symm
      · exact .inr h
  · intro x y k k' L1 L2 hne hk hk' ho ha hL1 hL2
    rcases hget x k hk with ⟨rfl, rfl⟩ | ⟨hx, hk⟩
    · rcases hget y k' hk' with ⟨rfl, rfl⟩ | ⟨hy, hk'⟩
      · exact absurd rfl hne
      · exact hH.dis x y _ k' L1 L2 hne hb hk' rfl ha hL1 hL2
    · rcases hget y k' hk' with ⟨e, rfl⟩ | ⟨hy, hk'⟩
      · subst e; exact hH.dis x _ k _ L1 L2 hne (by assumption) hb ho (own_alive rfl) hL1 hL2
      · exact hH.dis x y k k' L1 L2 hne (by assumption) hk' ho ha hL1 hL2
  · intro x L' h; simpa using hH.dom x L' h
  · intro g l hg
    obtain ⟨h1, h2⟩ := hH.glob g l hg
    refine ⟨by simpa using h1, fun i x hx => ?_⟩
    obtain ⟨v, hv, hv'⟩ := h2 i x hx
    have hne : gIx g ≠ L.c := hH.apart b _ L hb rfl hL g l hg
    obtain ⟨b0, hb0⟩ := gAt_eq g
    exact ⟨v, by rw [hb0] at hv ⊢; rw [World.cell?_of_block (w := w) (a := at' (gIx g) (b0 + i)) (hother _ hne)]; exact hv, hv'⟩
  · intro x k L' hk ho hL'
    rcases hget x k hk with ⟨rfl, rfl⟩ | ⟨hx, hk⟩
    · exact hH.apart x _ L' hb rfl hL'
    · exact hH.apart x k L' hk ho hL'
  · intro c hc hn
    refine hother c fun e => hn ⟨b, _, L, hb, rfl, hL, e.symm⟩
  · intro c hc ⟨x, k, L', hk, ho, hL', hLc⟩
    rcases hget x k hk with ⟨rfl, rfl⟩ | ⟨hx, hk⟩
    · exact ⟨x, _, L', hb, rfl, hL', hLc⟩
    · exact ⟨x, k, L', hk, ho, hL', hLc⟩

/-- A block that is looked at no more. -/
theorem HRel.kill (hH : HRel G β H w) (b : Nat) (d : Data) : HRel G β (H.set b ⟨d, .dead⟩) w := by
  have hget : ∀ (x : Nat) k, (H.set b ⟨d, .dead⟩)[x]? = some k → k.mode.alive → H[x]? = some k := by
    intro x k hk ha
    by_cases e : x = b
    · subst e
      rcases Nat.lt_or_ge x H.length with h | h
      · rw [List.getElem?_set_self h] at hk; injection hk with hk; subst hk; exact absurd rfl ha
      · rw [List.getElem?_eq_none (by simpa using h)] at hk; cases hk
    · rwa [List.getElem?_set_ne (Ne.symm e)] at hk
  refine ⟨fun x k hk ha => hH.blk x k (hget x k hk ha) ha, fun x y k k' L L' hne hk hk' ho ha => hH.dis x y k k' L L' hne (hget x k hk (own_alive ho)) (hget y k' hk' ha) ho ha,
    fun x L h => by simpa using hH.dom x L h, hH.glob, fun x k L hk ho => hH.apart x k L (hget x k hk (own_alive ho)) ho⟩

/-- A row's cells are written, where nothing of it is frozen. -/
theorem run_storeCells_atG (P : Program) (g o : Nat) (t : TypeId) (fz : Nat × Nat) : ∀ (vs : List Value) (i : Nat) (cur : Array Value) (w : World), w.heap[g]? = some (.cells cur t fz) → FzOk fz cur.size → o + i + vs.length ≤ cur.size → (∀ v ∈ vs, v.oneCell' = true) →
    (storeCells ⟨g, o, none⟩ vs i).run P w = .ok () (w.setRow g (cur.toList.take (o + i) ++ vs ++ cur.toList.drop (o + i + vs.length)).toArray)
  | [], i, cur, w, hg, _, _, _ => by
    simp only [storeCells, List.append_nil, List.length_nil, Nat.add_zero, List.take_append_drop, Array.toArray_toList]
    rw [setRow_self w g cur t fz hg]
    rfl
  | v :: rest, i, cur, w, hg, hfz, hl, h1 => by
    have hi : o + i < cur.size := by simp at hl; omega
    have hadd : (⟨g, o, none⟩ : Addr).add i = ⟨g, o + i, none⟩ := by unfold Addr.add; split <;> simp_all
    have hcell : w.cell? ⟨g, o + i, none⟩ = some cur[o + i] := by simp [World.cell?, hg, hi]
    have hfro : w.frozen? ⟨g, o + i, none⟩ = false := by
      obtain ⟨lo, hi'⟩ := fz
      simp only [World.frozen?, hg, Bool.and_eq_false_iff, decide_eq_false_iff_not]
      rcases hfz with e | e
      · injection e with e1 e2; right; omega
      · injection e with e1 e2; left; omega
    have hst : (store ((⟨g, o, none⟩ : Addr).add i) v).run P w = .ok () (w.setRow g (cur.setIfInBounds (o + i) v)) := by
      rw [hadd, run_store P w _ v _ (h1 v (by simp)), hcell]
      simp [hfro, setCell_eq_setRow w g (o + i) cur t fz v hg]
    have ih := run_storeCells_atG P g o t fz rest (i + 1) (cur.setIfInBounds (o + i) v) (w.setRow g (cur.setIfInBounds (o + i) v)) (setRow_heap w g cur _ t _ hg) (by simpa using hfz) (by simp at hl ⊢; omega) (fun x hx => h1 x (by simp [hx]))
    simp only [storeCells, Sem.run_bind, hst, Result.andThen_ok, ih, setRow_setRow]
    congr 3
    have e := list_seg_step cur.toList (o + i) v rest (by simp at hl ⊢; omega)
    simpa [Array.toList_setIfInBounds, Nat.add_assoc] using e
/-- The place behind a row of our own is marked. -/
theorem HRel.mark (hH : HRel G β H w) {b : Nat} {d : Data} {L : Loc} (hb : H[b]? = some ⟨d, .own⟩) (hL : β b = some L) :
    ∃ (e : TypeId), w.shape? L.c = some (e, L.room) ∧ HRel G β H (w.freeze ⟨L.c, L.room, none⟩ 1) ∧ Stp β H w β H (w.freeze ⟨L.c, L.room, none⟩ 1) := by
  have hob : OOk β d L w := by
    rcases hH.blk b _ hb (own_alive rfl) with ⟨L', hL', hbr⟩ | ⟨_, hn⟩
    · rw [hL] at hL'; injection hL' with e; subst e; exact hbr
    · rw [hL] at hn; cases hn
  obtain ⟨h0, vs, t, fz, hh, hfz, hvl, hdl, hrr⟩ := hob
  have hlt : L.c < w.heap.size := (Array.getElem?_eq_some_iff.1 hh).1
  have hv : w.heap[L.c] = .cells ⟨vs⟩ t fz := (Array.getElem?_eq_some_iff.1 hh).2
  have hnew : (w.freeze ⟨L.c, L.room, none⟩ 1).heap[L.c]? = some (.cells ⟨vs⟩ t (vs.length, vs.length + 1)) := by
    unfold World.freeze
    rw [if_neg (by decide)]
    simp only
    rw [Array.getElem?_eq_getElem (by simpa using hlt), Array.getElem_modify]
    obtain ⟨lo, hi⟩ := fz
    rcases hfz with e | e
    · injection e with e1 e2; subst e1 e2; simp [hv, hvl]
    · injection e with e1 e2; subst e1 e2; simp [hv, hvl]
  have hother : ∀ c, c ≠ L.c → (w.freeze ⟨L.c, L.room, none⟩ 1).heap[c]? = w.heap[c]? := by
    intro c hc
    unfold World.freeze
    rw [if_neg (by decide)]
    simp only
    rw [Array.getElem?_modify, if_neg (Ne.symm hc)]
  have hsz : (w.freeze ⟨L.c, L.room, none⟩ 1).heap.size = w.heap.size := by
    unfold World.freeze
    rw [if_neg (by decide)]
    simp
  have hos : (w.freeze ⟨L.c, L.room, none⟩ 1).os = w.os ∧ (w.freeze ⟨L.c, L.room, none⟩ 1).tape = w.tape ∧ (w.freeze ⟨L.c, L.room, none⟩ 1).output = w.output := by
    unfold World.freeze
    rw [if_neg (by decide)]
    exact ⟨rfl, rfl, rfl⟩
  refine ⟨t, by simp [World.shape?, hh, hvl], ⟨?_, hH.dis, hH.dom, ?_, hH.apart⟩, ⟨Map.le_refl β, Nat.le_refl _, hos.1, hos.2.1, hos.2.2, by omega, ?_, fun _ _ h => h, fun _ _ => rfl⟩⟩
  · intro x k hk ha
    by_cases e : x = b
    · subst e
      rw [hb] at hk; injection hk with hk; subst hk
      exact .inl ⟨L, hL, h0, vs, t, _, hnew, .inr rfl, hvl, hdl, hrr⟩
    · rcases hH.blk x k hk ha with ⟨L', hL', hbr⟩ | h
      · refine .inl ⟨L', hL', hbr.mono (Map.le_refl β) (by omega) (hother _ ?_)⟩
        exact (hH.dis b x _ k L L' (Ne.symm e) hb hk rfl ha hL hL').symm
      · exact .inr h
  · intro g l hg
    obtain ⟨h1, h2⟩ := hH.glob g l hg
    refine ⟨by omega, fun i x hx => ?_⟩
    obtain ⟨v, hv, hv'⟩ := h2 i x hx
    have hne : gIx g ≠ L.c := hH.apart b _ L hb rfl hL g l hg
    obtain ⟨b0, hb0⟩ := gAt_eq g
    exact ⟨v, by rw [hb0] at hv ⊢; rw [World.cell?_of_block (w := w) (a := at' (gIx g) (b0 + i)) (hother _ hne)]; exact hv, hv'⟩
  · intro c hc hn
    refine hother c fun e => hn ?_
    exact ⟨b, _, L, hb, rfl, hL, e.symm⟩

theorem St.write_spec {S S' : St} {b : Nat} {d : Data} (h : S.write b d = some S') : ∃ d0, S.H[b]? = some ⟨d0, .own⟩ ∧ S'.H = S.H.set b ⟨d, .own⟩ ∧ S'.low = min S.low b ∧ S'.cond = S.cond ∧ S'.dec = S.dec := by
  unfold St.write at h
  rw [lget_eq] at h
  cases hb : S.H[b]? with
  | none => simp [hb] at h
  | some k =>
    obtain ⟨d', m⟩ := k
    rw [hb] at h
    cases m <;> simp at h
    subst h
    exact ⟨d', rfl, lset_eq _ _ _, rfl, rfl, rfl⟩
end
end Go.Eng

/- Salsa20's rounds, in plain words. -/
import Derived.Test.YtnonaagcnenbdaaEngA
namespace Go.Eng
def rotl (x : BitVec 32) (n : Nat) : BitVec 32 := x <<< n ||| x >>> (32 - n)
structure W16 where
  (x0 x1 x2 x3 x4 x5 x6 x7 x8 x9 x10 x11 x12 x13 x14 x15 : BitVec 32)
structure W4 where
  (a b c d : BitVec 32)
def quar (a b c d : BitVec 32) : W4 :=
  let b := b ^^^ rotl (a + d) 7
  let c := c ^^^ rotl (b + a) 9
  let d := d ^^^ rotl (c + b) 13
  let a := a ^^^ rotl (d + c) 18
  ⟨a, b, c, d⟩
def dbl (x : W16) : W16 :=
  match quar x.x0 x.x4 x.x8 x.x12 with
  | ⟨x0, x4, x8, x12⟩ =>
  match quar x.x5 x.x9 x.x13 x.x1 with
  | ⟨x5, x9, x13, x1⟩ =>
  match quar x.x10 x.x14 x.x2 x.x6 with
  | ⟨x10, x14, x2, x6⟩ =>
  match quar x.x15 x.x3 x.x7 x.x11 with
  | ⟨x15, x3, x7, x11⟩ =>
  match quar x0 x1 x2 x3 with
  | ⟨x0, x1, x2, x3⟩ =>
  match quar x5 x6 x7 x4 with
  | ⟨x5, x6, x7, x4⟩ =>
  match quar x10 x11 x8 x9 with
  | ⟨x10, x11, x8, x9⟩ =>
  match quar x15 x12 x13 x14 with
  | ⟨x15, x12, x13, x14⟩ => ⟨x0, x1, x2, x3, x4, x5, x6, x7, x8, x9, x10, x11, x12, x13, x14, x15⟩
def add16 (x w : W16) : W16 := ⟨x.x0 + w.x0, x.x1 + w.x1, x.x2 + w.x2, x.x3 + w.x3, x.x4 + w.x4, x.x5 + w.x5, x.x6 + w.x6, x.x7 + w.x7, x.x8 + w.x8, x.x9 + w.x9, x.x10 + w.x10, x.x11 + w.x11, x.x12 + w.x12, x.x13 + w.x13, x.x14 + w.x14, x.x15 + w.x15⟩
def xor16 (x w : W16) : W16 := ⟨x.x0 ^^^ w.x0, x.x1 ^^^ w.x1, x.x2 ^^^ w.x2, x.x3 ^^^ w.x3, x.x4 ^^^ w.x4, x.x5 ^^^ w.x5, x.x6 ^^^ w.x6, x.x7 ^^^ w.x7, x.x8 ^^^ w.x8, x.x9 ^^^ w.x9, x.x10 ^^^ w.x10, x.x11 ^^^ w.x11, x.x12 ^^^ w.x12, x.x13 ^^^ w.x13, x.x14 ^^^ w.x14, x.x15 ^^^ w.x15⟩
def W16.list (x : W16) : List (BitVec 32) := [x.x0, x.x1, x.x2, x.x3, x.x4, x.x5, x.x6, x.x7, x.x8, x.x9, x.x10, x.x11, x.x12, x.x13, x.x14, x.x15]
def take16 (v : Vec 32) (o : Nat) : W16 := ⟨v.l.getD (o + 0) 0, v.l.getD (o + 1) 0, v.l.getD (o + 2) 0, v.l.getD (o + 3) 0, v.l.getD (o + 4) 0, v.l.getD (o + 5) 0, v.l.getD (o + 6) 0, v.l.getD (o + 7) 0, v.l.getD (o + 8) 0, v.l.getD (o + 9) 0, v.l.getD (o + 10) 0, v.l.getD (o + 11) 0, v.l.getD (o + 12) 0, v.l.getD (o + 13) 0, v.l.getD (o + 14) 0, v.l.getD (o + 15) 0⟩
def put16 (l : Vec 32) (o : Nat) (x : W16) : Vec 32 :=
  (((((((((((((((l.set (o + 0) x.x0).set (o + 1) x.x1).set (o + 2) x.x2).set (o + 3) x.x3).set (o + 4) x.x4).set (o + 5) x.x5).set (o + 6) x.x6).set (o + 7) x.x7).set (o + 8) x.x8).set (o + 9) x.x9).set (o + 10) x.x10).set (o + 11) x.x11).set (o + 12) x.x12).set (o + 13) x.x13).set (o + 14) x.x14).set (o + 15) x.x15
def salsa8 (w : W16) : W16 := add16 (dbl (dbl (dbl (dbl w)))) w
def W16.cells (x : W16) : List AV := [.w32 x.x0, .w32 x.x1, .w32 x.x2, .w32 x.x3, .w32 x.x4, .w32 x.x5, .w32 x.x6, .w32 x.x7, .w32 x.x8, .w32 x.x9, .w32 x.x10, .w32 x.x11, .w32 x.x12, .w32 x.x13, .w32 x.x14, .w32 x.x15]
def W16.av (x : W16) : AV := .agg x.cells
end Go.Eng

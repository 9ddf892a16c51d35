/- XTEA in plain words: rounds, and that they are undone. -/
import Derived.Test.YtcjoocaabeckfaaEngA
namespace Go.Eng
/-- Four bytes as a word, the highest first. -/
def be (f : Nat → BitVec 8) (o : Nat) : BitVec 32 := (f o).setWidth 32 <<< 24 ||| (f (o + 1)).setWidth 32 <<< 16 ||| (f (o + 2)).setWidth 32 <<< 8 ||| (f (o + 3)).setWidth 32
/-- The bytes of two words. -/
def unbe (x y : BitVec 32) (i : Nat) : BitVec 8 :=
  match i with
  | 0 => (x >>> 24).setWidth 8
  | 1 => (x >>> 16).setWidth 8
  | 2 => (x >>> 8).setWidth 8
  | 3 => x.setWidth 8
  | 4 => (y >>> 24).setWidth 8
  | 5 => (y >>> 16).setWidth 8
  | 6 => (y >>> 8).setWidth 8
  | _ => y.setWidth 8
theorem word_bytes (x : BitVec 32) : ((x >>> 24).setWidth 8).setWidth 32 <<< 24 ||| ((x >>> 16).setWidth 8).setWidth 32 <<< 16 ||| ((x >>> 8).setWidth 8).setWidth 32 <<< 8 ||| (x.setWidth 8).setWidth 32 = x := by
  apply BitVec.eq_of_getLsbD_eq
  intro i hi
  simp only [BitVec.getLsbD_or, BitVec.getLsbD_shiftLeft, BitVec.getLsbD_setWidth, BitVec.getLsbD_ushiftRight]
  by_cases h1 : i < 8
  · simp [h1, show i < 16 by omega, show i < 24 by omega, hi]
  · by_cases h2 : i < 16
    · simp [h1, h2, show i < 24 by omega, hi, show i - 8 < 8 by omega, show i - 8 < 32 by omega, show 8 + (i - 8) = i by omega]
    · by_cases h3 : i < 24
      · simp [h1, h2, h3, hi, show i - 16 < 8 by omega, show i - 16 < 32 by omega, show 16 + (i - 16) = i by omega, show ¬ i - 8 < 8 by omega]
      · simp [h1, h2, h3, hi, show i - 24 < 8 by omega, show i - 24 < 32 by omega, show 24 + (i - 24) = i by omega, show ¬ i - 8 < 8 by omega, show ¬ i - 16 < 8 by omega]
theorem be_unbe (x y : BitVec 32) : be (unbe x y) 0 = x ∧ be (unbe x y) 4 = y := ⟨word_bytes x, word_bytes y⟩
theorem byte_word (a b c d : BitVec 8) : ((a.setWidth 32 <<< 24 ||| b.setWidth 32 <<< 16 ||| c.setWidth 32 <<< 8 ||| d.setWidth 32) >>> 24).setWidth 8 = a ∧
    ((a.setWidth 32 <<< 24 ||| b.setWidth 32 <<< 16 ||| c.setWidth 32 <<< 8 ||| d.setWidth 32) >>> 16).setWidth 8 = b ∧
    ((a.setWidth 32 <<< 24 ||| b.setWidth 32 <<< 16 ||| c.setWidth 32 <<< 8 ||| d.setWidth 32) >>> 8).setWidth 8 = c ∧
    (a.setWidth 32 <<< 24 ||| b.setWidth 32 <<< 16 ||| c.setWidth 32 <<< 8 ||| d.setWidth 32).setWidth 8 = d := by
  refine ⟨?_, ?_, ?_, ?_⟩ <;> apply BitVec.eq_of_getLsbD_eq <;> intro i hi <;>
    simp only [BitVec.getLsbD_or, BitVec.getLsbD_shiftLeft, BitVec.getLsbD_setWidth, BitVec.getLsbD_ushiftRight]
  · have hb : b.getLsbD (24 + i - 16) = false := BitVec.getLsbD_of_ge _ _ (by omega)
    have hc : c.getLsbD (24 + i - 8) = false := BitVec.getLsbD_of_ge _ _ (by omega)
    have hd : d.getLsbD (24 + i) = false := BitVec.getLsbD_of_ge _ _ (by omega)
    simp [hi, hb, hc, hd, show 24 + i < 32 by omega, show ¬ 24 + i < 24 by omega, show ¬ 24 + i < 16 by omega, show ¬ 24 + i < 8 by omega, show 24 + i - 24 = i by omega, show i < 32 by omega]
  · have hc : c.getLsbD (16 + i - 8) = false := BitVec.getLsbD_of_ge _ _ (by omega)
    have hd : d.getLsbD (16 + i) = false := BitVec.getLsbD_of_ge _ _ (by omega)
    simp [hi, hc, hd, show 16 + i < 32 by omega, show 16 + i < 24 by omega, show ¬ 16 + i < 16 by omega, show ¬ 16 + i < 8 by omega, show 16 + i - 16 = i by omega, show i < 32 by omega]
  · skip
    simp [hi, show 8 + i < 32 by omega, show 8 + i < 24 by omega, show 8 + i < 16 by omega, show ¬ 8 + i < 8 by omega, show 8 + i - 8 = i by omega, show i < 32 by omega]
  · simp [hi, show i < 32 by omega, show i < 24 by omega, show i < 16 by omega]
theorem unbe_be (f : Nat → BitVec 8) (i : Nat) (hi : i < 8) : unbe (be f 0) (be f 4) i = f i := by
  obtain ⟨a1, a2, a3, a4⟩ := byte_word (f 0) (f 1) (f 2) (f 3)
  obtain ⟨b1, b2, b3, b4⟩ := byte_word (f 4) (f 5) (f 6) (f 7)
  match i, hi with
  | 0, _ => exact a1
  | 1, _ => exact a2
  | 2, _ => exact a3
  | 3, _ => exact a4
  | 4, _ => exact b1
  | 5, _ => exact b2
  | 6, _ => exact b3
  | 7, _ => exact b4
structure P2 where
  (x y : BitVec 32)
def mx (v : BitVec 32) : BitVec 32 := (v <<< 4 ^^^ v >>> 5) + v
def stepE (t0 t1 : BitVec 32) (p : P2) : P2 :=
  match p with
  | ⟨x, y⟩ =>
    let x := x + (mx y ^^^ t0)
    ⟨x, y + (mx x ^^^ t1)⟩
def stepD (t0 t1 : BitVec 32) (p : P2) : P2 :=
  match p with
  | ⟨x, y⟩ =>
    let y := y - (mx x ^^^ t1)
    ⟨x - (mx y ^^^ t0), y⟩
theorem stepDE (t0 t1 : BitVec 32) (p : P2) : stepD t0 t1 (stepE t0 t1 p) = p := by
  obtain ⟨x, y⟩ := p
  simp only [stepD, stepE, BitVec.add_sub_cancel]
theorem stepED (t0 t1 : BitVec 32) (p : P2) : stepE t0 t1 (stepD t0 t1 p) = p := by
  obtain ⟨x, y⟩ := p
  simp only [stepD, stepE, BitVec.sub_add_cancel]
def encN (t : Nat → BitVec 32) : Nat → P2 → P2
  | 0, p => p
  | n + 1, p => stepE (t (2 * n)) (t (2 * n + 1)) (encN t n p)
def decN (t : Nat → BitVec 32) : Nat → P2 → P2
  | 0, p => p
  | n + 1, p => decN t n (stepD (t (2 * n)) (t (2 * n + 1)) p)
theorem dec_enc (t : Nat → BitVec 32) : ∀ (n : Nat) (p : P2), decN t n (encN t n p) = p
  | 0, _ => rfl
  | n + 1, p => by rw [encN, decN, stepDE, dec_enc t n p]
theorem enc_dec (t : Nat → BitVec 32) : ∀ (n : Nat) (p : P2), encN t n (decN t n p) = p
  | 0, _ => rfl
  | n + 1, p => by rw [decN, encN, enc_dec t n, stepED]
/-- What is added in each half round. -/
def xtab (f : Nat → BitVec 8) (i : Nat) : BitVec 32 :=
  let s := ((i + 1) / 2 * 2654435769) % 4294967296
  match i % 2 with
  | 0 => BitVec.ofNat 32 s + be f (4 * (s % 4))
  | _ => BitVec.ofNat 32 s + be f (4 * (s / 2048 % 4))
def xtea (f g : Nat → BitVec 8) (way : Bool) : P2 :=
  match way with
  | false => encN (xtab f) 32 ⟨be g 0, be g 4⟩
  | true => decN (xtab f) 32 ⟨be g 0, be g 4⟩
def xteaB (f g : Nat → BitVec 8) (way : Bool) (i : Nat) : BitVec 8 := unbe (xtea f g way).x (xtea f g way).y i
theorem xtea_back (f g : Nat → BitVec 8) (way : Bool) (i : Nat) (hi : i < 8) : xteaB f (xteaB f g way) (!way) i = g i := by
  unfold xteaB
  have h1 : ∀ p : P2, be (fun i => unbe p.x p.y i) 0 = p.x := fun p => (be_unbe p.x p.y).1
  have h2 : ∀ p : P2, be (fun i => unbe p.x p.y i) 4 = p.y := fun p => (be_unbe p.x p.y).2
  have key : xtea f (fun i => unbe (xtea f g way).x (xtea f g way).y i) (!way) = ⟨be g 0, be g 4⟩ := by
    generalize hp : xtea f g way = p
    cases way with
    | false =>
      show decN (xtab f) 32 ⟨be (fun i => unbe p.x p.y i) 0, be (fun i => unbe p.x p.y i) 4⟩ = _
      rw [h1, h2]
      have : p = encN (xtab f) 32 ⟨be g 0, be g 4⟩ := hp.symm
      show decN (xtab f) 32 p = _
      rw [this, dec_enc]
    | true =>
      show encN (xtab f) 32 ⟨be (fun i => unbe p.x p.y i) 0, be (fun i => unbe p.x p.y i) 4⟩ = _
      rw [h1, h2]
      have : p = decN (xtab f) 32 ⟨be g 0, be g 4⟩ := hp.symm
      show encN (xtab f) 32 p = _
      rw [this, enc_dec]
  rw [key]
  exact unbe_be g i hi
end Go.Eng

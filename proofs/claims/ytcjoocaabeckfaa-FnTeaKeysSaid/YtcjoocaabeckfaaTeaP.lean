/- TEA in plain words. -/
import Derived.Test.YtcjoocaabeckfaaXteaP
import Derived.Test.YtcjoocaabeckfaaEngD
namespace Go.Eng
structure TeaK where
  (k0 k1 k2 k3 dl : BitVec 32)
structure TeaS where
  (x y s : BitVec 32)
def mixT (v s a b : BitVec 32) : BitVec 32 := ((v <<< 4 + a) ^^^ (v + s)) ^^^ (v >>> 5 + b)
def tE (k : TeaK) (t : TeaS) : TeaS :=
  let s := t.s + k.dl
  let x := t.x + mixT t.y s k.k0 k.k1
  ⟨x, t.y + mixT x s k.k2 k.k3, s⟩
def tD (k : TeaK) (t : TeaS) : TeaS :=
  let y := t.y - mixT t.x t.s k.k2 k.k3
  ⟨t.x - mixT y t.s k.k0 k.k1, y, t.s - k.dl⟩
theorem tDE (k : TeaK) (t : TeaS) : tD k (tE k t) = t := by
  obtain ⟨x, y, s⟩ := t
  simp only [tD, tE, BitVec.add_sub_cancel]
theorem tED (k : TeaK) (t : TeaS) : tE k (tD k t) = t := by
  obtain ⟨x, y, s⟩ := t
  simp only [tD, tE, BitVec.sub_add_cancel]
theorem iter_back {D : Type} {f g : D → D} (h : ∀ d, g (f d) = d) : ∀ (n : Nat) (d : D), iter g n (iter f n d) = d
  | 0, _ => rfl
  | n + 1, d => by rw [iter_succ f n d, iter, h, iter_back h n d]
theorem tE_sum (k : TeaK) : ∀ (n : Nat) (t : TeaS), (iter (tE k) n t).s = t.s + BitVec.ofNat 32 n * k.dl
  | 0, t => by simp [iter]
  | n + 1, t => by
    rw [iter, tE_sum k n]
    show (t.s + k.dl) + _ = _
    have e : BitVec.ofNat 32 (n + 1) = BitVec.ofNat 32 n + 1#32 := by rw [BitVec.ofNat_add]
    rw [e, BitVec.add_mul, BitVec.one_mul, BitVec.add_assoc, BitVec.add_comm k.dl]
theorem tD_sum (k : TeaK) : ∀ (n : Nat) (t : TeaS), (iter (tD k) n t).s = t.s - BitVec.ofNat 32 n * k.dl
  | 0, t => by simp [iter]
  | n + 1, t => by
    rw [iter, tD_sum k n]
    show (t.s - k.dl) - _ = _
    have e : BitVec.ofNat 32 (n + 1) = BitVec.ofNat 32 n + 1#32 := by rw [BitVec.ofNat_add]
    rw [e, BitVec.add_mul, BitVec.one_mul, BitVec.sub_sub, BitVec.add_comm k.dl]
end Go.Eng

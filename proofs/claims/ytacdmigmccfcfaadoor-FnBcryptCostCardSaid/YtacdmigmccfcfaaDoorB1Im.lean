/- Cost and impl.BcryptCost. No condition. -/
import Derived.Test.YtacdmigmccfcfaaDoorB1No
namespace Go.Proofs.YtacdmigmccfcfaaDoor
set_option linter.unusedVariables false
set_option linter.unusedSimpArgs false
set_option linter.unusedSectionVars false
open Go.RowKit Go.Extern.Stop Go.Stop Go.Extern
open Go.Eng (Still)
set_option maxHeartbeats 4000000 in
/-- Cost where newFromHash has an error. -/
theorem cost_err (x : Value) (t : TypeId) (v : Value) (w : World) (Q : World → Prop)
    (h : Calls Tryd.prog 12 #[x] w fun e w' => e = .returned (.tuple #[.pointer none, .iface t v]) ∧ Q w') :
    Calls Tryd.prog 9 #[x] w fun e w' => e = .returned (.tuple #[.int .i64 0, .iface t v]) ∧ Q w' := by
  go_enter Tryd.func9, Tryd.ntmps9
  go_wp2_with (go_at_call 12; refine h.mono ?_; rintro e w2 ⟨rfl, hq⟩)
  go_ret2
  exact ⟨rfl, hq⟩
set_option maxHeartbeats 4000000 in
theorem cost_fine (x : Value) (n : Int) (w : World)
    (h : Calls Tryd.prog 12 #[x] w fun e w' => ∃ N, e = .returned (.tuple #[.pointer (some ⟨N, 0, none⟩), .nilIface]) ∧ w'.cell? ⟨N, 2, none⟩ = some (.int .i64 n) ∧ Still w w') :
    Calls Tryd.prog 9 #[x] w fun e w' => e = .returned (.tuple #[.int .i64 n, .nilIface]) ∧ Still w w' := by
  go_enter Tryd.func9, Tryd.ntmps9
  go_wp2_with (go_at_call 12; refine h.mono ?_; rintro e w2 ⟨N, rfl, hc, hs⟩)
  go_ret2
  exact ⟨rfl, hs⟩
set_option maxHeartbeats 4000000 in
/-- impl.BcryptCost by Cost and bcryptKind. -/
theorem impl_of (x : Value) (n k : Int) (er : Value) (w : World) (Q : World → Prop)
    (h9 : Calls Tryd.prog 9 #[x] w fun e w' => e = .returned (.tuple #[.int .i64 n, er]) ∧ Still w w' ∧ Q w')
    (h10 : ∀ w', Still w w' → Q w' → Calls Tryd.prog 10 #[er] w' fun e w'' => e = .returned (.int .i64 k) ∧ Still w' w'') :
    Calls Tryd.prog 5 #[x] w fun e w' => e = .returned (.tuple #[.int .i64 n, .int .i64 k]) ∧ Still w w' := by
  go_enter Tryd.func5, Tryd.ntmps5
  go_wp2_with (first
    | (have _ := hs; go_at_call 10; refine (h10 _ hs hq).mono ?_; rintro e w3 ⟨rfl, hs3⟩)
    | (go_at_call 9; refine h9.mono ?_; rintro e w2 ⟨rfl, hs, hq⟩))
  go_ret2
  exact ⟨rfl, still_trans hs hs3⟩
/-- What impl.BcryptCost answers. -/
def implR (l : List UInt8) : Int × Int :=
  if l.length < 59 then (0, 2)
  else if ¬ l[0]? = some 36 then (0, 3)
  else if 50 < ((l.getD 1 0).toNat : Int) then (0, 4)
  else match (if l[2]? = some 36 then atoiR (l.getD 3 0) (l.getD 4 0) else atoiR (l.getD 4 0) (l.getD 5 0)) with
    | none => (0, 6)
    | some n => if n < 4 ∨ 31 < n then (0, 5) else (n, 0)
theorem impl_short {a0 a1 aS : Addr} (a : Option Addr) (l : List UInt8) (len cap : Nat) (w : World) (g : Gs a0 a1 aS w) (hlen : l.length = len) (hl : len < 59) :
    Calls Tryd.prog 5 #[.slice a len cap] w fun e w' => e = .returned (.tuple #[.int .i64 (implR l).1, .int .i64 (implR l).2]) ∧ Still w w' := by
  have e : implR l = (0, 2) := by unfold implR; rw [if_pos (by omega)]
  rw [e]
  exact impl_of _ 0 2 _ w (fun _ => True) ((cost_err _ 109 _ w (Still w) (nf_short a len cap w g (by omega))).mono fun e w' ⟨h, k⟩ => ⟨h, k, trivial⟩) fun w' hs _ => kind_short w' (g.keep hs)
set_option maxHeartbeats 4000000 in
theorem cost_wrap {aS : Addr} (x : Value) (w : World)
    (h : Calls Tryd.prog 12 #[x] w fun e w' => ∃ N, e = .returned (.tuple #[.pointer none, .iface 95 (.pointer (some ⟨N, 0, none⟩))]) ∧ w'.cell? ⟨N, 2, none⟩ = some (.iface 109 (.pointer (some aS))) ∧ Still w w') :
    Calls Tryd.prog 9 #[x] w fun e w' => ∃ N, e = .returned (.tuple #[.int .i64 0, .iface 95 (.pointer (some ⟨N, 0, none⟩))]) ∧ w'.cell? ⟨N, 2, none⟩ = some (.iface 109 (.pointer (some aS))) ∧ Still w w' := by
  go_enter Tryd.func9, Tryd.ntmps9
  go_wp2_with (go_at_call 12; refine h.mono ?_; rintro e w2 ⟨N, rfl, hc, hs⟩)
  go_ret2
  exact ⟨N, rfl, hc, hs⟩
set_option maxHeartbeats 4000000 in
theorem impl_wrap {a0 a1 aS : Addr} (l : List UInt8) (b o len cap : Nat) (w : World) (g : Gs a0 a1 aS w)
    (h : Calls Tryd.prog 12 #[.slice (some ⟨b, o, none⟩) len cap] w fun e w' => ∃ N, e = .returned (.tuple #[.pointer none, .iface 95 (.pointer (some ⟨N, 0, none⟩))]) ∧ w'.cell? ⟨N, 2, none⟩ = some (.iface 109 (.pointer (some aS))) ∧ Still w w') :
    Calls Tryd.prog 5 #[.slice (some ⟨b, o, none⟩) len cap] w fun e w' => e = .returned (.tuple #[.int .i64 0, .int .i64 6]) ∧ Still w w' := by
  have h9 := cost_wrap _ w h
  go_enter Tryd.func5, Tryd.ntmps5
  go_wp2_with (first
    | (have _ := hs; go_at_call 10; refine (kind_wrap (a0 := a0) (a1 := a1) (aS := aS) N 0 _ (g.keep hs) hq).mono ?_; rintro e w3 ⟨rfl, hs3⟩)
    | (go_at_call 9; refine h9.mono ?_; rintro e w2 ⟨N, rfl, hq, hs⟩))
  go_ret2
  exact ⟨rfl, still_trans hs hs3⟩
theorem impl_long {a0 a1 aS : Addr} (l : List UInt8) (b o len cap : Nat) (w : World) (g : Gs a0 a1 aS w) (hb : b < w.heap.size)
    (hc : ∀ j (hj : j < l.length), w.cell? ⟨b, o + j, none⟩ = some (.int .u8 (l[j].toNat : Int))) (hlen : l.length = len) (hl : ¬ len < 59) (hcap : len ≤ cap) (hsm : len ≤ 1024) :
    Calls Tryd.prog 5 #[.slice (some ⟨b, o, none⟩) len cap] w fun e w' => e = .returned (.tuple #[.int .i64 (implR l).1, .int .i64 (implR l).2]) ∧ Still w w' := by
  have q0 : 0 < l.length := by omega
  have q1 : 1 < l.length := by omega
  have hl' : ¬ (len : Int) < 59 := by omega
  have c0 := hc 0 q0
  have c1 := hc 1 q1
  have e1 : l.getD 1 0 = l[1] := by rw [List.getD_eq_getElem?_getD, List.getElem?_eq_getElem q1]; rfl
  unfold implR
  rw [if_neg (by omega)]
  by_cases h0 : l[0]? = some 36
  · rw [if_neg (fun h => h h0)]
    have e0 : l[0] = 36 := by rw [List.getElem?_eq_getElem q0] at h0; exact Option.some.inj h0
    rw [e0] at c0
    by_cases h1 : 50 < ((l.getD 1 0).toNat : Int)
    · rw [if_pos h1]
      rw [e1] at h1
      exact impl_of _ 0 4 _ w (fun _ => True) ((cost_err _ 42 _ w (Still w) (nf_new _ b o len cap w c0 c1 h1 hl')).mono fun e w' ⟨h, k⟩ => ⟨h, k, trivial⟩) fun w' hs _ => kind_42 _ w' (g.keep hs)
    · rw [if_neg h1]
      by_cases h2 : l[2]? = some 36
      · rw [if_pos h2]
        cases hn : atoiR (l.getD 3 0) (l.getD 4 0) with
        | none =>
          have h12 := nf_none3 l b o len cap w hb hc hlen hl' hcap h0 h1 h2 g hn
          exact impl_wrap l b o len cap w g h12
        | some n =>
          by_cases hr : n < 4 ∨ 31 < n
          · simp only [if_pos hr]
            exact impl_of _ 0 5 _ w (fun _ => True) ((cost_err _ 43 _ w (Still w) (nf_bad3 l b o len cap w hb hc hlen hl' hcap h0 h1 h2 n hn hr)).mono fun e w' ⟨h, k⟩ => ⟨h, k, trivial⟩) fun w' hs _ => kind_43 _ w' (g.keep hs)
          · simp only [if_neg hr]
            exact impl_of _ n 0 _ w (fun _ => True) ((cost_fine _ n w (nf_ok3 l b o len cap w hb hc hlen hl' hcap h0 h1 h2 n hn hsm (fun h => hr (Or.inl h)) (fun h => hr (Or.inr h)))).mono fun e w' ⟨h, k⟩ => ⟨h, k, trivial⟩) fun w' hs _ => is_nilE a0 w'
      · rw [if_neg h2]
        cases hn : atoiR (l.getD 4 0) (l.getD 5 0) with
        | none =>
          have h12 := nf_none4 l b o len cap w hb hc hlen hl' hcap h0 h1 h2 g hn
          exact impl_wrap l b o len cap w g h12
        | some n =>
          by_cases hr : n < 4 ∨ 31 < n
          · simp only [if_pos hr]
            exact impl_of _ 0 5 _ w (fun _ => True) ((cost_err _ 43 _ w (Still w) (nf_bad4 l b o len cap w hb hc hlen hl' hcap h0 h1 h2 n hn hr)).mono fun e w' ⟨h, k⟩ => ⟨h, k, trivial⟩) fun w' hs _ => kind_43 _ w' (g.keep hs)
          · simp only [if_neg hr]
            exact impl_of _ n 0 _ w (fun _ => True) ((cost_fine _ n w (nf_ok4 l b o len cap w hb hc hlen hl' hcap h0 h1 h2 n hn hsm (fun h => hr (Or.inl h)) (fun h => hr (Or.inr h)))).mono fun e w' ⟨h, k⟩ => ⟨h, k, trivial⟩) fun w' hs _ => is_nilE a0 w'
  · rw [if_pos h0]
    have e0 : ¬ (l[0].toNat : Int) = 36 := by
      intro e
      exact h0 (by rw [List.getElem?_eq_getElem q0]; exact congrArg some (UInt8.toNat_inj.1 (Int.ofNat.inj e)))
    exact impl_of _ 0 3 _ w (fun _ => True) ((cost_err _ 41 _ w (Still w) (nf_prefix _ b o len cap w c0 e0 hl')).mono fun e w' ⟨h, k⟩ => ⟨h, k, trivial⟩) fun w' hs _ => kind_41 _ w' (g.keep hs)
end Go.Proofs.YtacdmigmccfcfaaDoor

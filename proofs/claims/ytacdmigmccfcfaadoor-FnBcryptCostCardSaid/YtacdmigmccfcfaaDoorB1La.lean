/- FnBcryptCost: of all bytes: where the published form tells the cost of a hash, the code tells it. No condition. -/
import Derived.Test.YtacdmigmccfcfaaDoorB1Lw
import Derived.Test.YtacdmigmccfcfaaDoorB1Wd
import Derived.Test.YtacdmigmccfcfaaDoorCards
import Derived.Test.YtacdmigmccfcfaaDoorTie
namespace Go.Proofs.YtacdmigmccfcfaaDoor
set_option linter.unusedVariables false
set_option linter.unusedSimpArgs false
set_option linter.unusedSectionVars false
open Go.ChangeShapes Go.WideShapes Go.ChangeAt Go.RowKit
open Go.Eng (Still SlOk Vec)
theorem walk {a0 a1 aS : Addr} {W : World} {v : Value} (g : Gs a0 a1 aS W) (b : Vec 8) (hv : SlOk W v (.b8 b)) :
    Calls Tryd.prog 3 #[v] W fun e W' => e = .returned (.bool true) ∧ Still W W' := by
  obtain ⟨a, cp, rfl, hcap, hx⟩ := hv
  have hlen : (Eng.Data.b8 b).len = b.l.length := b.h.symm
  rw [hlen] at hcap ⊢
  obtain ⟨l, hl⟩ : ∃ l : List UInt8, l = b.l.map UInt8.ofBitVec := ⟨_, rfl⟩
  have hll : l.length = b.l.length := by rw [hl, List.length_map]
  by_cases h0 : (2147483647 : Int) < (b.l.length : Nat)
  · exact law_huge a _ cp W h0
  by_cases h1 : (1024 : Int) < (b.l.length : Nat)
  · exact law_big a _ cp W h0 h1
  by_cases h2 : b.l.length ≤ 28
  · exact law_small l a _ cp W h0 h1 (impl_short a l _ cp W g hll (by omega)) fun w2 hs => spec_short a l _ cp w2 hll h2
  by_cases h3 : b.l.length < 59
  · exact law_small l a _ cp W h0 h1 (impl_short a l _ cp W g hll h3) fun w2 hs => spec_size a l _ cp w2 h2 (by omega)
  rcases hx with hx | ⟨L, rfl, -, hL, -, hat⟩
  · omega
  have hc : ∀ j (hj : j < l.length), W.cell? ⟨L.c, L.base + j, none⟩ = some (.int .u8 (l[j].toNat : Int)) := by
    intro j hj
    have hj' : j < b.l.length := by omega
    obtain ⟨x, hx1, hx2⟩ := hat j (.w8 b.l[j]) (by simp [Eng.Data.at, List.getElem?_eq_getElem hj'])
    have := hx2.num_inv
    subst this
    subst hl
    rw [List.getElem_map]
    exact hx1
  refine law_small l (some ⟨L.c, L.base, none⟩) _ cp W h0 h1 (impl_long l L.c L.base _ cp W g hL hc hll h3 hcap (by omega)) fun w2 hs => ?_
  by_cases h4 : b.l.length = 60
  · rw [h4]
    exact spec_60 l L.c L.base cp w2 (fun j hj => still_cell hs (hc j hj)) (by omega) (by omega)
  · exact spec_size _ l _ cp w2 h2 h4
theorem own : ownKnob Tryd.prog.godebug = none := by kernel_rfl
theorem laidOut : laidOutB Tryd.prog = true := by kernel_rfl
theorem read22 : Tryd.prog.readableRec 22 = true ∧ 22 < Tryd.prog.types.size := ⟨by kernel_rfl, of_decide_eq_true (by kernel_rfl)⟩
theorem cells5 : Tryd.prog.cellsOf 5 = 1 := by kernel_rfl
set_option maxRecDepth 100000 in
theorem contract (H : Type) (enc : TypeId × Value → H) (W : World) (base : Nat) (args : Array Value) (ds gs : List (DataW H)) (before : List MemPlace)
    (hval : ∀ (j : Nat) t v, Tryd.f3.params[j]? = some t → args[j]? = some v → Value.okWide Tryd.prog W .any base t v)
    (hL : laidMetH Tryd.prog laidR W)
    (hW : DataW.Whole enc Tryd.prog Tryd.f3.params.toList Rows.fnBcryptCostSpec.vars false W args.toList ds gs before) :
    Calls Tryd.prog 3 args W fun e W' => ∃ v, e = .returned v ∧ Rows.fnBcryptCostSpec.post enc Tryd.prog Tryd.f3 false true false false W args v W' := by
  have hW' := hW
  obtain ⟨p, q, hA0, hV, rfl, hfz, hnd⟩ := hW
  have hA : DataW.TrodAll enc Tryd.prog W 0 (fun _ => true) true Tryd.f3.params.toList args.toList ds p := hA0
  rw [Tryd.params3] at hA hval
  obtain ⟨v0, vs0, d0, ds0, p0, q0, hargs, rfl, rfl, h0, r0⟩ := trodAll_cons hA
  obtain ⟨rfl, rfl, rfl⟩ := trodAll_nil r0
  obtain rfl : args = #[v0] := by cases args; simp_all
  letI : Eng.RowAddr := ⟨fun _ => (0, 0)⟩
  obtain ⟨l0, w0, m0⟩ := Eng.open_sl8 Tryd.underlying22 Tryd.underlying5 cells5 (hval 0 22 v0 rfl rfl) h0
  obtain ⟨a0, a1, aS, g⟩ := glob_ok hL
  refine (walk g l0 w0).mono fun e W' ⟨he, hs⟩ => ?_
  subst he
  exact ⟨_, rfl, Eng.post_of_still (tb := 4) hW' rfl rfl laidOut (by
    intro t ht
    rw [Tryd.params3] at ht
    have : t = 22 := by simpa using ht
    subst this
    · exact read22
    ) (by kernel_rfl) Tryd.underlying4 hs⟩
set_option maxRecDepth 100000 in
theorem lifted (os : Os) (started : os.Started) (H : Type) (enc : TypeId × Value → H) :
    ReturnsInHanded {} Tryd.checked os 3 .any (fun w args => (Rows.fnBcryptCostSpec.pre enc Tryd.prog Tryd.f3 [] false w args ∧ laidMetH Tryd.prog laidR w) ∧ sizedMet enc Tryd.prog Tryd.f3 (OpenSpec.ofChange Rows.fnBcryptCostSpec) false w args)
      (Rows.fnBcryptCostSpec.post enc Tryd.prog Tryd.f3 false true false false) := by
  refine returnsInHanded_of_change_and (C := Tryd.checked) (X := fun w _ => laidMetH Tryd.prog laidR w) (fun _ _ _ hh h => h.of_heap hh) own started (by kernel_rfl) Tryd.func3
    (ChangeSpec.witness_shaped (enc := enc) (C := Tryd.checked) (os := os) (X := fun w _ => laidMetH Tryd.prog laidR w) false (laidWorld os) #[.slice none 0 0] 8 rfl (World.shaped_of_RefB (by kernel_rfl) (by kernel_rfl)) (by kernel_rfl) (by kernel_rfl) (by kernel_rfl) (laidWorld_met os _)) ?_
  intro W base args ds gs before hval hW _ _ hL _
  exact contract H enc W base args ds gs before hval hL hW
theorem holds : Rows.FnBcryptCostSaid :=
  OpenClaim.holds_of_wide 3 Tryd.f3 rfl rfl rfl rfl rfl rfl rfl ⟨rfl, rfl, rfl, rfl, rfl⟩ rfl rfl rfl rfl rfl (by kernel_rfl) Tryd.func3 (by kernel_rfl)
    (of_decide_eq_true (by kernel_rfl)) (by unfold Func.isWrapper; first | (rw [if_pos (by decide +kernel)]; kernel_rfl) | (rw [if_neg (by decide +kernel)]; exact ⟨rfl, rfl⟩))
    (fun os started H enc _ => lifted os started H enc)
theorem card_holds : Rows.FnBcryptCostCardSaid :=
  Claim7.holds_tied_plain_at .later [] [.data, .data, .data, .handle, .sentinel, .sentinel, .sentinel, .sentinel] true (true, "d35cd3f0e61100ce26e95c78209fb4e0551fdea3b2f65d94e10e11f5d08e88c5") true
    holds (fun _ h => by cases h) (by kernel_rfl) (fun _ h => by cases h) fnBcryptCost_row_tie rfl ⟨rfl, rfl⟩ (by kernel_rfl) rfl
    (fun f fn hf hfn => by
      obtain rfl : f = 3 := Option.some.inj ((show Tryd.prog.funcNamed "pub-wardkeep/laws.FnBcryptCost" = some 3 by kernel_rfl).symm.trans hf) |>.symm
      obtain rfl : fn = Tryd.f3 := (Option.some.inj (Tryd.func3.symm.trans hfn)).symm
      exact ⟨by kernel_rfl, fun j t ht => by
        rw [Tryd.params3] at ht
        have h3 : t = 22 := by
          rcases j with _ | j
          · simpa using ht.symm
          · simp at ht
        subst h3
        · exact (show Tryd.prog.wantsStandIn 22 = false by kernel_rfl)⟩)
    (by kernel_rfl)
end Go.Proofs.YtacdmigmccfcfaaDoor

/- The law FnBcryptCost, stepped through. No condition. -/
import Derived.Test.YtacdmigmccfcfaaDoorB1Sa
import Derived.Test.YtacdmigmccfcfaaDoorB1Rl
import Derived.Test.YtacdmigmccfcfaaDoorEngD
namespace Go.Proofs.YtacdmigmccfcfaaDoor
set_option linter.unusedVariables false
set_option linter.unusedSimpArgs false
set_option linter.unusedSectionVars false
open Go.RowKit Go.Extern.Stop Go.Stop Go.Extern
open Go.Eng (Still SlOk Vec)
set_option maxHeartbeats 4000000 in
theorem law_huge (a : Option Addr) (len cap : Nat) (w : World) (h : (2147483647 : Int) < len) :
    Calls Tryd.prog 3 #[.slice a len cap] w fun e w' => e = .returned (.bool true) ∧ Still w w' := by
  go_enter Tryd.func3, Tryd.ntmps3
  go_wp2
  go_ret
  exact ⟨rfl, still_refl w⟩
set_option maxHeartbeats 4000000 in
theorem law_big (a : Option Addr) (len cap : Nat) (w : World) (h0 : ¬ (2147483647 : Int) < len) (h : (1024 : Int) < len) :
    Calls Tryd.prog 3 #[.slice a len cap] w fun e w' => e = .returned (.bool true) ∧ Still w w' := by
  go_enter Tryd.func3, Tryd.ntmps3
  go_wp2_with (go_at_call 4; refine (E.letters _).mono ?_; rintro e w2 ⟨rfl, hs⟩)
  go_ret
  exact ⟨rfl, hs⟩
set_option maxHeartbeats 4000000 in
theorem law_small (l : List UInt8) (a : Option Addr) (len cap : Nat) (w : World) (h0 : ¬ (2147483647 : Int) < len) (h : ¬ (1024 : Int) < len)
    (h5 : Calls Tryd.prog 5 #[.slice a len cap] w fun e w' => e = .returned (.tuple #[.int .i64 (implR l).1, .int .i64 (implR l).2]) ∧ Still w w')
    (h6 : ∀ w2, Still w w2 → Calls Tryd.prog 6 #[.slice a len cap] w2 (Ans l w2)) :
    Calls Tryd.prog 3 #[.slice a len cap] w fun e w' => e = .returned (.bool true) ∧ Still w w' := by
  generalize hR : implR l = R at h5
  obtain ⟨n, k⟩ := R
  go_enter Tryd.func3, Tryd.ntmps3
  go_wp2_with (go_at_call 5; refine h5.mono ?_; rintro e w2 ⟨rfl, hs2⟩)
  go_at_call 6
  refine (h6 _ hs2).mono ?_
  rintro e w3 ⟨m, o, s, rfl, hm, hs3⟩
  cases s
  · go_wp2_with (go_at_call 4; refine (E.letters _).mono ?_; rintro e w4 ⟨rfl, hs4⟩)
    go_ret
    exact ⟨rfl, still_trans (still_trans hs2 hs3) hs4⟩
  · have hm := hm rfl
    rw [hR] at hm
    cases hm
    go_wp2_with (go_at_call 4; refine (E.letters _).mono ?_; rintro e w4 ⟨rfl, hs4⟩)
    go_ret
    exact ⟨rfl, still_trans (still_trans hs2 hs3) hs4⟩
end Go.Proofs.YtacdmigmccfcfaaDoor

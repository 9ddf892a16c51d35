/- spec.BcryptCost and impl.BcryptCost answer alike. No condition. -/
import Derived.Test.YtacdmigmccfcfaaDoorB1Sp
namespace Go.Proofs.YtacdmigmccfcfaaDoor
set_option linter.unusedVariables false
set_option linter.unusedSimpArgs false
set_option linter.unusedSectionVars false
open Go.RowKit Go.Extern.Stop Go.Stop Go.Extern
open Go.Eng (Still)
theorem dg_of {b : UInt8} (h : 48 ≤ (b.toNat : Int)) (h2 : (b.toNat : Int) ≤ 57) : dg b = (b.toNat : Int) - 48 := Int.emod_eq_of_lt (by omega) (by omega)
theorem atoi_digits {b0 b1 : UInt8} (h : 48 ≤ (b0.toNat : Int)) (h2 : (b0.toNat : Int) ≤ 57) (k : 48 ≤ (b1.toNat : Int)) (k2 : (b1.toNat : Int) ≤ 57) :
    atoiR b0 b1 = some (10 * ((b0.toNat : Int) - 48) + ((b1.toNat : Int) - 48)) := by
  have n45 : ¬ b0 = 45 := by intro e; subst e; exact absurd h (by decide)
  have n43 : ¬ b0 = 43 := by intro e; subst e; exact absurd h (by decide)
  unfold atoiR
  rw [if_neg n45, if_neg n43, dg_of h h2, dg_of k k2, if_neg (by omega), if_neg (by omega)]
  congr 1
  omega
theorem u8_ne {b : UInt8} {n : UInt8} (h : ¬ b = n) : ¬ (b.toNat : Int) = (n.toNat : Int) := fun e => h (UInt8.toNat_inj.1 (Int.ofNat.inj e))
/-- What spec.BcryptCost answers, held against impl's. -/
def Ans (l : List UInt8) (w : World) (e : Ending) (w' : World) : Prop :=
  ∃ (n k : Int) (s : Bool), e = .returned (.tuple #[.int .i64 n, .int .i64 k, .bool s]) ∧ (s = true → implR l = (n, k)) ∧ Still w w'
theorem ans_mk {l : List UInt8} {w : World} {x : Value} {f : FuncId} (n k : Int) (s : Bool) (h : Calls Tryd.prog f #[x] w fun e w' => e = .returned (.tuple #[.int .i64 n, .int .i64 k, .bool s]) ∧ Still w w') (hs : s = true → implR l = (n, k)) :
    Calls Tryd.prog f #[x] w (Ans l w) := h.mono fun _ _ ⟨a, b⟩ => ⟨n, k, s, a, hs, b⟩
theorem spec_short (a : Option Addr) (l : List UInt8) (len cap : Nat) (w : World) (hlen : l.length = len) (hl : len ≤ 28) :
    Calls Tryd.prog 6 #[.slice a len cap] w (Ans l w) := by
  refine ans_mk 0 2 true (sp_short a len cap w (by omega)) fun _ => ?_
  unfold implR
  rw [if_pos (by omega)]
theorem spec_size (a : Option Addr) (l : List UInt8) (len cap : Nat) (w : World) (hl : ¬ len ≤ 28) (h60 : ¬ len = 60) :
    Calls Tryd.prog 6 #[.slice a len cap] w (Ans l w) :=
  ans_mk 0 0 false (sp_size a len cap w (by omega) (by simp only [beq_eq_false_iff_ne, ne_eq]; omega)) fun h => by cases h
theorem spec_60 (l : List UInt8) (b o cap : Nat) (w : World)
    (hc : ∀ j (hj : j < l.length), w.cell? ⟨b, o + j, none⟩ = some (.int .u8 (l[j].toNat : Int))) (hlen : l.length = 60) (hcap : 60 ≤ cap) :
    Calls Tryd.prog 6 #[.slice (some ⟨b, o, none⟩) 60 cap] w (Ans l w) := by
  have c0 := hc 0 (by omega)
  have c1 := hc 1 (by omega)
  have c2 := hc 2 (by omega)
  have c3 := hc 3 (by omega)
  have c4 := hc 4 (by omega)
  have c5 := hc 5 (by omega)
  have c6 := hc 6 (by omega)
  have i0 : l[0]? = some l[0] := List.getElem?_eq_getElem (by omega)
  have i2 : l[2]? = some l[2] := List.getElem?_eq_getElem (by omega)
  have g1 : l.getD 1 0 = l[1] := by rw [List.getD_eq_getElem?_getD, List.getElem?_eq_getElem (by omega)]; rfl
  have g4 : l.getD 4 0 = l[4] := by rw [List.getD_eq_getElem?_getD, List.getElem?_eq_getElem (by omega)]; rfl
  have g5 : l.getD 5 0 = l[5] := by rw [List.getD_eq_getElem?_getD, List.getElem?_eq_getElem (by omega)]; rfl
  have hR : implR l = if ¬ l[0] = 36 then ((0, 3) : Int × Int) else if (50 : Int) < (l[1].toNat : Int) then (0, 4) else match (if l[2] = 36 then atoiR (l.getD 3 0) (l.getD 4 0) else atoiR l[4] l[5]) with
      | none => (0, 6)
      | some n => if n < 4 ∨ 31 < n then (0, 5) else (n, 0) := by
    unfold implR
    rw [if_neg (by omega), i0, i2, g1, g4, g5]
    simp only [Option.some.injEq]
    rfl
  clear i0 i2 g1 g5
  generalize l[0]'(by omega) = l0 at c0 hR
  generalize l[1]'(by omega) = l1 at c1 hR
  generalize l[2]'(by omega) = l2 at c2 hR
  generalize l[3]'(by omega) = l3 at c3
  generalize l[4]'(by omega) = l4 at c4 hR
  generalize l[5]'(by omega) = l5 at c5 hR
  generalize l[6]'(by omega) = l6 at c6
  by_cases h0 : l0 = 36
  · subst h0
    by_cases h1 : 50 < (l1.toNat : Int)
    · by_cases h1b : (l1.toNat : Int) ≤ 57
      · refine ans_mk 0 4 true (sp_ver _ b o cap w c0 c1 h1 h1b hcap) fun _ => ?_
        rw [hR, if_neg (fun h => h rfl), if_pos h1]
      · refine ans_mk 0 0 false (sp_odd_b l1 l2 l3 b o cap w c0 c1 c2 c3 h1 h1b ?_ hcap) fun h => by cases h
        rw [beq_eq_false_iff_ne]
        intro e
        subst e
        exact absurd h1 (by decide)
    · by_cases a1 : l1 = 50
      · subst a1
        by_cases a2 : l2 = 97
        · subst a2
          by_cases a3 : l3 = 36
          · subst a3
            by_cases a6 : l6 = 36
            · subst a6
              rw [if_neg (fun h => h rfl), if_neg (by decide), if_neg (by decide)] at hR
              by_cases d4 : (l4.toNat : Int) < 48 ∨ 57 < (l4.toNat : Int)
              · exact ans_mk 0 0 false (sp_d1 _ b o cap w c0 c1 c2 c3 c6 c4 d4 hcap) fun h => by cases h
              · have d4a : 48 ≤ (l4.toNat : Int) := by omega
                have d4b : (l4.toNat : Int) ≤ 57 := by omega
                by_cases d5 : (l5.toNat : Int) < 48 ∨ 57 < (l5.toNat : Int)
                · exact ans_mk 0 0 false (sp_d2 _ _ b o cap w c0 c1 c2 c3 c6 c4 c5 d4a d4b d5 hcap) fun h => by cases h
                · have d5a : 48 ≤ (l5.toNat : Int) := by omega
                  have d5b : (l5.toNat : Int) ≤ 57 := by omega
                  rw [atoi_digits d4a d4b d5a d5b] at hR
                  by_cases hn : 10 * ((l4.toNat : Int) - 48) + ((l5.toNat : Int) - 48) < 4 ∨ 31 < 10 * ((l4.toNat : Int) - 48) + ((l5.toNat : Int) - 48)
                  · refine ans_mk 0 5 true (sp_bad _ _ b o cap w c0 c1 c2 c3 c6 c4 c5 d4a d4b d5a d5b hn hcap) fun _ => ?_
                    rw [hR]
                    exact if_pos hn
                  · refine ans_mk _ 0 true (sp_ok _ _ b o cap w c0 c1 c2 c3 c6 c4 c5 d4a d4b d5a d5b (fun h => hn (Or.inl h)) (fun h => hn (Or.inr h)) hcap) fun _ => ?_
                    rw [hR]
                    exact if_neg hn
            · exact ans_mk 0 0 false (sp_odd_c _ b o cap w c0 c1 c2 c3 c6 (u8_ne (n := 36) a6) hcap) fun h => by cases h
          · exact ans_mk 0 0 false (sp_odd_a3 l3 b o cap w c0 c1 c2 c3 (by rw [beq_eq_false_iff_ne]; exact a3) hcap) fun h => by cases h
        · exact ans_mk 0 0 false (sp_odd_a2 l2 l3 b o cap w c0 c1 c2 c3 (by rw [beq_eq_false_iff_ne]; exact a2) hcap) fun h => by cases h
      · exact ans_mk 0 0 false (sp_odd_a1 l1 l2 l3 b o cap w c0 c1 c2 c3 h1 (by rw [beq_eq_false_iff_ne]; exact a1) hcap) fun h => by cases h
  · refine ans_mk 0 3 true (sp_prefix _ b o cap w c0 (u8_ne (n := 36) h0) hcap) fun _ => ?_
    rw [hR, if_pos h0]
end Go.Proofs.YtacdmigmccfcfaaDoor

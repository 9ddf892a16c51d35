/- errors.Is by its contracts, at the errors that the reading of a hash makes. No condition. -/
import Derived.Test.YtacdmigmccfcfaaDoorProg
import Derived.WalkKit
import Derived.LaidEql
import Derived.Stop.Asserts
import Derived.RowKitTokens
import Derived.KernelRfl
namespace Go.Proofs.YtacdmigmccfcfaaDoor
open Go.RowKit Go.Extern.Stop Go.Stop Go.Extern
theorem isTypeOf (v : Value) (w : World) : (Extern.ReflectliteType.typeOf #[.iface 109 v]).run Tryd.prog w = .ok (.iface 70 (.agg #[.pointer (some ⟨8, 109, none⟩)])) w := by kernel_rfl
def compF : Array Value → Sem Value := Extern.ReflectliteType.method fun t => do Rtype.noPackHeld "Comparable" t; pure (.bool (← typeInfo t).comparable)
theorem isComparable (w : World) : (compF #[.agg #[.pointer (some ⟨8, 109, none⟩)]]).run Tryd.prog w = .ok (.bool true) w := by kernel_rfl
theorem isMethodComparable (v : Value) (w : World) : (Go.method 255 70 v "Comparable").run Tryd.prog w = .ok (85, v) w := by kernel_rfl
theorem isComp : (Tryd.prog.info? 109).map (·.comparable) = some true := by kernel_rfl
theorem isSize : (Tryd.prog.info? 111).map (·.size) = some 1 := by kernel_rfl
theorem noIs109 (v : Value) (xT : TypeId) (w : World) : (Instr.typeAssert (.iface 109 v) xT 72 true).run Tryd.prog w = .ok (.tuple #[.nilIface, .bool false]) w := run_typeAssert_lacksB Tryd.underlying72 (by kernel_rfl) (by kernel_rfl) v xT w
theorem noUnwrap109 (v : Value) (xT : TypeId) (w : World) : (Instr.typeAssert (.iface 109 v) xT 75 true).run Tryd.prog w = .ok (.tuple #[.nilIface, .bool false]) w := run_typeAssert_lacksB Tryd.underlying75 (by kernel_rfl) (by kernel_rfl) v xT w
theorem noUnwraps109 (v : Value) (xT : TypeId) (w : World) : (Instr.typeAssert (.iface 109 v) xT 77 true).run Tryd.prog w = .ok (.tuple #[.nilIface, .bool false]) w := run_typeAssert_lacksB Tryd.underlying77 (by kernel_rfl) (by kernel_rfl) v xT w
theorem noAs109 (v : Value) (xT : TypeId) (w : World) : (Instr.typeAssert (.iface 109 v) xT 82 true).run Tryd.prog w = .ok (.tuple #[.nilIface, .bool false]) w := run_typeAssert_lacksB Tryd.underlying82 (by kernel_rfl) (by kernel_rfl) v xT w
theorem noIs41 (v : Value) (xT : TypeId) (w : World) : (Instr.typeAssert (.iface 41 v) xT 72 true).run Tryd.prog w = .ok (.tuple #[.nilIface, .bool false]) w := run_typeAssert_lacksB Tryd.underlying72 (by kernel_rfl) (by kernel_rfl) v xT w
theorem noUnwrap41 (v : Value) (xT : TypeId) (w : World) : (Instr.typeAssert (.iface 41 v) xT 75 true).run Tryd.prog w = .ok (.tuple #[.nilIface, .bool false]) w := run_typeAssert_lacksB Tryd.underlying75 (by kernel_rfl) (by kernel_rfl) v xT w
theorem noUnwraps41 (v : Value) (xT : TypeId) (w : World) : (Instr.typeAssert (.iface 41 v) xT 77 true).run Tryd.prog w = .ok (.tuple #[.nilIface, .bool false]) w := run_typeAssert_lacksB Tryd.underlying77 (by kernel_rfl) (by kernel_rfl) v xT w
theorem noAs41 (v : Value) (xT : TypeId) (w : World) : (Instr.typeAssert (.iface 41 v) xT 82 true).run Tryd.prog w = .ok (.tuple #[.nilIface, .bool false]) w := run_typeAssert_lacksB Tryd.underlying82 (by kernel_rfl) (by kernel_rfl) v xT w
theorem noIs42 (v : Value) (xT : TypeId) (w : World) : (Instr.typeAssert (.iface 42 v) xT 72 true).run Tryd.prog w = .ok (.tuple #[.nilIface, .bool false]) w := run_typeAssert_lacksB Tryd.underlying72 (by kernel_rfl) (by kernel_rfl) v xT w
theorem noUnwrap42 (v : Value) (xT : TypeId) (w : World) : (Instr.typeAssert (.iface 42 v) xT 75 true).run Tryd.prog w = .ok (.tuple #[.nilIface, .bool false]) w := run_typeAssert_lacksB Tryd.underlying75 (by kernel_rfl) (by kernel_rfl) v xT w
theorem noUnwraps42 (v : Value) (xT : TypeId) (w : World) : (Instr.typeAssert (.iface 42 v) xT 77 true).run Tryd.prog w = .ok (.tuple #[.nilIface, .bool false]) w := run_typeAssert_lacksB Tryd.underlying77 (by kernel_rfl) (by kernel_rfl) v xT w
theorem noAs42 (v : Value) (xT : TypeId) (w : World) : (Instr.typeAssert (.iface 42 v) xT 82 true).run Tryd.prog w = .ok (.tuple #[.nilIface, .bool false]) w := run_typeAssert_lacksB Tryd.underlying82 (by kernel_rfl) (by kernel_rfl) v xT w
theorem noIs43 (v : Value) (xT : TypeId) (w : World) : (Instr.typeAssert (.iface 43 v) xT 72 true).run Tryd.prog w = .ok (.tuple #[.nilIface, .bool false]) w := run_typeAssert_lacksB Tryd.underlying72 (by kernel_rfl) (by kernel_rfl) v xT w
theorem noUnwrap43 (v : Value) (xT : TypeId) (w : World) : (Instr.typeAssert (.iface 43 v) xT 75 true).run Tryd.prog w = .ok (.tuple #[.nilIface, .bool false]) w := run_typeAssert_lacksB Tryd.underlying75 (by kernel_rfl) (by kernel_rfl) v xT w
theorem noUnwraps43 (v : Value) (xT : TypeId) (w : World) : (Instr.typeAssert (.iface 43 v) xT 77 true).run Tryd.prog w = .ok (.tuple #[.nilIface, .bool false]) w := run_typeAssert_lacksB Tryd.underlying77 (by kernel_rfl) (by kernel_rfl) v xT w
theorem noAs43 (v : Value) (xT : TypeId) (w : World) : (Instr.typeAssert (.iface 43 v) xT 82 true).run Tryd.prog w = .ok (.tuple #[.nilIface, .bool false]) w := run_typeAssert_lacksB Tryd.underlying82 (by kernel_rfl) (by kernel_rfl) v xT w
theorem noIs95 (v : Value) (xT : TypeId) (w : World) : (Instr.typeAssert (.iface 95 v) xT 72 true).run Tryd.prog w = .ok (.tuple #[.nilIface, .bool false]) w := run_typeAssert_lacksB Tryd.underlying72 (by kernel_rfl) (by kernel_rfl) v xT w
theorem hasUnwrap95 (v : Value) (xT : TypeId) (w : World) : (Instr.typeAssert (.iface 95 v) xT 75 true).run Tryd.prog w = .ok (.tuple #[.iface 95 v, .bool true]) w := run_typeAssert_hasB Tryd.underlying75 (by kernel_rfl) v xT w
theorem noUnwraps95 (v : Value) (xT : TypeId) (w : World) : (Instr.typeAssert (.iface 95 v) xT 77 true).run Tryd.prog w = .ok (.tuple #[.nilIface, .bool false]) w := run_typeAssert_lacksB Tryd.underlying77 (by kernel_rfl) (by kernel_rfl) v xT w
theorem noAs95 (v : Value) (xT : TypeId) (w : World) : (Instr.typeAssert (.iface 95 v) xT 82 true).run Tryd.prog w = .ok (.tuple #[.nilIface, .bool false]) w := run_typeAssert_lacksB Tryd.underlying82 (by kernel_rfl) (by kernel_rfl) v xT w
theorem methodUnwrap (v : Value) (w : World) : (Go.method 255 95 v "Unwrap").run Tryd.prog w = .ok (97, v) w := by kernel_rfl
/-- errors.Is(x, x). -/
theorem is_same (a : Addr) (w : World) :
    Calls Tryd.prog 13 #[.iface 109 (.pointer (some a)), .iface 109 (.pointer (some a))] w fun e w' => e = .returned (.bool true) ∧ w' = w := by
  obtain ⟨i, hi, hcmp⟩ := Option.map_eq_some_iff.1 isComp
  obtain ⟨j, hj, hjs⟩ := Option.map_eq_some_iff.1 isSize
  have h18 := @run_callFunc_extern Tryd.prog 18 _ Extern.ReflectliteType.typeOf Tryd.func18 (by kernel_rfl) (by kernel_rfl) (by kernel_rfl) (by kernel_rfl)
  have h85 := @run_callFunc_extern Tryd.prog 85 _ compF Tryd.func85 (by kernel_rfl) (by kernel_rfl) (by kernel_rfl) (by kernel_rfl)
  have tT := isTypeOf
  have cT := isComparable
  have mR := isMethodComparable
  have heq := run_eql_iface_ptr_same (P := Tryd.prog) w a Tryd.underlying32 Tryd.underlying109 hi hcmp hj
  go_enter Tryd.func13, Tryd.ntmps13
  go_wp2
  refine wp_loop_rounds 1 ?_
  rw [rounds_succ]
  go_wp2
  go_ret
  exact ⟨rfl, rfl⟩

/-- errors.Is(x, y), two pointers. -/
theorem is_other (a b : Addr) (ca cb : Array Value) (ta tb : TypeId) (w : World) (hne : a ≠ b) (ha : w.heap[a.block]? = some (.cells ca ta (0, 0))) (hb : w.heap[b.block]? = some (.cells cb tb (0, 0))) :
    Calls Tryd.prog 13 #[.iface 109 (.pointer (some a)), .iface 109 (.pointer (some b))] w fun e w' => e = .returned (.bool false) ∧ w' = w := by
  obtain ⟨i, hi, hcmp⟩ := Option.map_eq_some_iff.1 isComp
  obtain ⟨j, hj, hjs⟩ := Option.map_eq_some_iff.1 isSize
  have h18 := @run_callFunc_extern Tryd.prog 18 _ Extern.ReflectliteType.typeOf Tryd.func18 (by kernel_rfl) (by kernel_rfl) (by kernel_rfl) (by kernel_rfl)
  have h85 := @run_callFunc_extern Tryd.prog 85 _ compF Tryd.func85 (by kernel_rfl) (by kernel_rfl) (by kernel_rfl) (by kernel_rfl)
  have tT := isTypeOf
  have cT := isComparable
  have mR := isMethodComparable
  have nE := noIs109
  have uE := noUnwrap109
  have vE := noUnwraps109
  have heq := run_eql_iface_ptr_other (P := Tryd.prog) w Tryd.underlying32 Tryd.underlying109 hi hcmp hj (by rw [hjs]; decide) hne ha hb
  go_enter Tryd.func13, Tryd.ntmps13
  go_wp2
  refine wp_loop_rounds 1 ?_
  rw [rounds_succ]
  go_wp2
  go_ret
  exact ⟨rfl, rfl⟩

/-- errors.Is(x, y), x a number of type 41. -/
theorem is_num41 (v : Value) (b : Addr) (w : World) :
    Calls Tryd.prog 13 #[.iface 41 v, .iface 109 (.pointer (some b))] w fun e w' => e = .returned (.bool false) ∧ w' = w := by
  obtain ⟨i, hi, hcmp⟩ := Option.map_eq_some_iff.1 isComp
  obtain ⟨j, hj, hjs⟩ := Option.map_eq_some_iff.1 isSize
  have h18 := @run_callFunc_extern Tryd.prog 18 _ Extern.ReflectliteType.typeOf Tryd.func18 (by kernel_rfl) (by kernel_rfl) (by kernel_rfl) (by kernel_rfl)
  have h85 := @run_callFunc_extern Tryd.prog 85 _ compF Tryd.func85 (by kernel_rfl) (by kernel_rfl) (by kernel_rfl) (by kernel_rfl)
  have tT := isTypeOf
  have cT := isComparable
  have mR := isMethodComparable
  have nE := noIs41
  have uE := noUnwrap41
  have vE := noUnwraps41
  have hty := run_eql_iface_types (P := Tryd.prog) 41 109 v (.pointer (some b)) Tryd.underlying32 (by decide) w
  go_enter Tryd.func13, Tryd.ntmps13
  go_wp2
  refine wp_loop_rounds 1 ?_
  rw [rounds_succ]
  go_wp2
  go_ret
  exact ⟨rfl, rfl⟩

/-- errors.Is(x, y), x a number of type 42. -/
theorem is_num42 (v : Value) (b : Addr) (w : World) :
    Calls Tryd.prog 13 #[.iface 42 v, .iface 109 (.pointer (some b))] w fun e w' => e = .returned (.bool false) ∧ w' = w := by
  obtain ⟨i, hi, hcmp⟩ := Option.map_eq_some_iff.1 isComp
  obtain ⟨j, hj, hjs⟩ := Option.map_eq_some_iff.1 isSize
  have h18 := @run_callFunc_extern Tryd.prog 18 _ Extern.ReflectliteType.typeOf Tryd.func18 (by kernel_rfl) (by kernel_rfl) (by kernel_rfl) (by kernel_rfl)
  have h85 := @run_callFunc_extern Tryd.prog 85 _ compF Tryd.func85 (by kernel_rfl) (by kernel_rfl) (by kernel_rfl) (by kernel_rfl)
  have tT := isTypeOf
  have cT := isComparable
  have mR := isMethodComparable
  have nE := noIs42
  have uE := noUnwrap42
  have vE := noUnwraps42
  have hty := run_eql_iface_types (P := Tryd.prog) 42 109 v (.pointer (some b)) Tryd.underlying32 (by decide) w
  go_enter Tryd.func13, Tryd.ntmps13
  go_wp2
  refine wp_loop_rounds 1 ?_
  rw [rounds_succ]
  go_wp2
  go_ret
  exact ⟨rfl, rfl⟩

/-- errors.Is(x, y), x a number of type 43. -/
theorem is_num43 (v : Value) (b : Addr) (w : World) :
    Calls Tryd.prog 13 #[.iface 43 v, .iface 109 (.pointer (some b))] w fun e w' => e = .returned (.bool false) ∧ w' = w := by
  obtain ⟨i, hi, hcmp⟩ := Option.map_eq_some_iff.1 isComp
  obtain ⟨j, hj, hjs⟩ := Option.map_eq_some_iff.1 isSize
  have h18 := @run_callFunc_extern Tryd.prog 18 _ Extern.ReflectliteType.typeOf Tryd.func18 (by kernel_rfl) (by kernel_rfl) (by kernel_rfl) (by kernel_rfl)
  have h85 := @run_callFunc_extern Tryd.prog 85 _ compF Tryd.func85 (by kernel_rfl) (by kernel_rfl) (by kernel_rfl) (by kernel_rfl)
  have tT := isTypeOf
  have cT := isComparable
  have mR := isMethodComparable
  have nE := noIs43
  have uE := noUnwrap43
  have vE := noUnwraps43
  have hty := run_eql_iface_types (P := Tryd.prog) 43 109 v (.pointer (some b)) Tryd.underlying32 (by decide) w
  go_enter Tryd.func13, Tryd.ntmps13
  go_wp2
  refine wp_loop_rounds 1 ?_
  rw [rounds_succ]
  go_wp2
  go_ret
  exact ⟨rfl, rfl⟩

/-- errors.Is(e, y), e a number's error that wraps another. -/
theorem is_wrap (pb po : Nat) (b a : Addr) (ca cb : Array Value) (ta tb : TypeId) (w : World) (h1 : w.cell? ⟨pb, po + 2, none⟩ = some (.iface 109 (.pointer (some a)))) (hne : a ≠ b) (ha : w.heap[a.block]? = some (.cells ca ta (0, 0))) (hb : w.heap[b.block]? = some (.cells cb tb (0, 0))) :
    Calls Tryd.prog 13 #[.iface 95 (.pointer (some ⟨pb, po, none⟩)), .iface 109 (.pointer (some b))] w fun e w' => e = .returned (.bool false) ∧ w' = w := by
  obtain ⟨i, hi, hcmp⟩ := Option.map_eq_some_iff.1 isComp
  obtain ⟨j, hj, hjs⟩ := Option.map_eq_some_iff.1 isSize
  have h18 := @run_callFunc_extern Tryd.prog 18 _ Extern.ReflectliteType.typeOf Tryd.func18 (by kernel_rfl) (by kernel_rfl) (by kernel_rfl) (by kernel_rfl)
  have h85 := @run_callFunc_extern Tryd.prog 85 _ compF Tryd.func85 (by kernel_rfl) (by kernel_rfl) (by kernel_rfl) (by kernel_rfl)
  have tT := isTypeOf
  have cT := isComparable
  have mR := isMethodComparable
  have nE := noIs109
  have uE := noUnwrap109
  have vE := noUnwraps109
  have nW := noIs95
  have uW := hasUnwrap95
  have mU := methodUnwrap
  have heq := run_eql_iface_ptr_other (P := Tryd.prog) w Tryd.underlying32 Tryd.underlying109 hi hcmp hj (by rw [hjs]; decide) hne ha hb
  have hty := run_eql_iface_types (P := Tryd.prog) 95 109 (.pointer (some ⟨pb, po, none⟩)) (.pointer (some b)) Tryd.underlying32 (by decide) w
  go_enter Tryd.func13, Tryd.ntmps13
  go_wp2
  refine wp_loop_rounds 2 ?_
  rw [rounds_succ]
  go_wp2
  rw [rounds_succ]
  go_wp2
  go_ret
  exact ⟨rfl, rfl⟩

end Go.Proofs.YtacdmigmccfcfaaDoor

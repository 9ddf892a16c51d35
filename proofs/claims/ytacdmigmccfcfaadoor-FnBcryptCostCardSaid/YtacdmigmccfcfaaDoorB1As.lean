/- errors.As by its contracts, at the errors that the reading of a hash makes. No condition. -/
import Derived.Test.YtacdmigmccfcfaaDoorB1Is
namespace Go.Proofs.YtacdmigmccfcfaaDoor
set_option linter.unusedVariables false
set_option linter.unusedSimpArgs false
set_option linter.unusedSectionVars false
open Go.RowKit Go.Extern.Stop Go.Stop Go.Extern
theorem methodKind (h : Value) (w : World) : (Go.method 255 70 (.agg #[h]) "Kind").run Tryd.prog w = .ok (72, h) w := by kernel_rfl
theorem methodElem (h : Value) (w : World) : (Go.method 255 70 (.agg #[h]) "Elem").run Tryd.prog w = .ok (86, .agg #[h]) w := by kernel_rfl
theorem methodImplements (h : Value) (w : World) : (Go.method 255 70 (.agg #[h]) "Implements").run Tryd.prog w = .ok (87, .agg #[h]) w := by kernel_rfl
theorem methodAssignableTo (h : Value) (w : World) : (Go.method 255 70 (.agg #[h]) "AssignableTo").run Tryd.prog w = .ok (84, .agg #[h]) w := by kernel_rfl
theorem rlm (z : Sem Value) (f : TypeId → Addr → Nat → Nat → Sem Value) (v : Value) :
    ReflectliteValue.method z f #[v] = (do match ← ReflectliteValue.parts v with | none => z | some (t, a, fl) => f t a fl (fl % 32)) := rfl
def kindF : Array Value → Sem Value := ReflectliteType.abiMethod fun t => do pure (.int .u8 (← Rtype.kind t))
def typeF : Array Value → Sem Value := ReflectliteValue.methodAny (ReflectliteValue.valueError "reflectlite.Value.Type" 0) (fun t _ _ _ => ReflectliteType.toType t)
def isNilF : Array Value → Sem Value := ReflectliteValue.method (ReflectliteValue.valueError "reflectlite.Value.IsNil" 0) ReflectliteValue.isNil
def elemF : Array Value → Sem Value := ReflectliteValue.method (ReflectliteValue.valueError "reflectlite.Value.Elem" 0) ReflectliteValue.elem
def elemTF : Array Value → Sem Value := ReflectliteType.method ReflectliteType.elem
def implF : Array Value → Sem Value := ReflectliteType.relation "Implements" ReflectliteType.implements_
def asgF : Array Value → Sem Value := ReflectliteType.relation "AssignableTo" ReflectliteType.assignableTo
theorem rls (v x : Value) : ReflectliteValue.set #[v, x] = (do
    let (some (dst, a, fl), some (src, b, _)) := (← ReflectliteValue.parts v, ← ReflectliteValue.parts x)
      | unsupported (.noEntry "extern/(internal/reflectlite.Value).Set.zeroValue")
    if fl / ReflectliteValue.flagAddr % 2 == 0 then unsupported (.noEntry "extern/(internal/reflectlite.Value).Set.unaddressable")
    let val ← loadVar src b
    if ← Rtype.directlyAssignable dst src then storeVar dst a val
    else if ← Rtype.implements dst src then
      if (← Rtype.kind src) == 20 then
        match val with
        | .nilIface => unsupported (.noEntry "extern/reflectlite: a nil value of one interface type handed on as a value of another")
        | _ => storeVar dst a val
      else storeVar dst a (.iface src val)
    else panicString ("reflectlite.Set: value of type " ++ (← Rtype.spelt src) ++ " is not assignable to type " ++ (← Rtype.spelt dst))
    pure (.tuple #[])) := rfl
theorem valueOf46 (t : Addr) (w : World) : (ReflectliteValue.unpack (.iface 46 (.pointer (some t)))).run Tryd.prog w
    = .ok (.agg #[.pointer (some ⟨8, 46, none⟩), .pointer (some ⟨w.heap.size, 0, none⟩), .int .u64 150]) (w.alloc (.cells #[.pointer (some t)] 46)) := by kernel_rfl
theorem type46 (a : Addr) (w : World) : (typeF #[.agg #[.pointer (some ⟨8, 46, none⟩), .pointer (some a), .int .u64 150]]).run Tryd.prog w = .ok (.iface 70 (.agg #[.pointer (some ⟨8, 46, none⟩)])) w := by kernel_rfl
theorem kind46 (w : World) : (kindF #[.pointer (some ⟨8, 46, none⟩)]).run Tryd.prog w = .ok (.int .u8 22) w := by kernel_rfl
theorem kind41 (w : World) : (kindF #[.pointer (some ⟨8, 41, none⟩)]).run Tryd.prog w = .ok (.int .u8 8) w := by kernel_rfl
theorem parts46 (a : Addr) (w : World) : (ReflectliteValue.parts (.agg #[.pointer (some ⟨8, 46, none⟩), .pointer (some a), .int .u64 150])).run Tryd.prog w = .ok (some (46, a, 150)) w := by kernel_rfl
theorem isNil46 (a p : Addr) (W : World) (ha : W.cell? a = some (.pointer (some p))) : (isNilF #[.agg #[.pointer (some ⟨8, 46, none⟩), .pointer (some a), .int .u64 150]]).run Tryd.prog W = .ok (.bool false) W := by
  unfold isNilF
  rw [rlm]
  simp only [Sem.run_bind, parts46, Result.andThen]
  simp [ReflectliteValue.isNil, loadVar, isAgg, underlying, Tryd.underlying46, ha, Result.andThen]
theorem elemT46 (w : World) : (elemTF #[.agg #[.pointer (some ⟨8, 46, none⟩)]]).run Tryd.prog w = .ok (.iface 70 (.agg #[.pointer (some ⟨8, 41, none⟩)])) w := by kernel_rfl
theorem impl41 (w : World) : (implF #[.agg #[.pointer (some ⟨8, 41, none⟩)], .iface 70 (.agg #[.pointer (some ⟨8, 32, none⟩)])]).run Tryd.prog w = .ok (.bool true) w := by kernel_rfl
theorem elemOf46 (w : World) : (Rtype.elem? 46).run Tryd.prog w = .ok (some 41) w := by kernel_rfl
theorem mk41 (p : Addr) (w : World) : (ReflectliteValue.mk 41 p ReflectliteValue.flagAddr).run Tryd.prog w = .ok (.agg #[.pointer (some ⟨8, 41, none⟩), .pointer (some p), .int .u64 392]) w := by kernel_rfl
theorem elemV46 (a p : Addr) (W : World) (ha : W.cell? a = some (.pointer (some p))) : (elemF #[.agg #[.pointer (some ⟨8, 46, none⟩), .pointer (some a), .int .u64 150]]).run Tryd.prog W = .ok (.agg #[.pointer (some ⟨8, 41, none⟩), .pointer (some p), .int .u64 392]) W := by
  unfold elemF
  rw [rlm]
  simp only [Sem.run_bind, parts46, Result.andThen]
  simp [ReflectliteValue.elem, loadVar, isAgg, underlying, Tryd.underlying46, ha, Result.andThen, elemOf46, mk41]
theorem typeOf41 (v : Value) (w : World) : (ReflectliteType.typeOf #[.iface 41 v]).run Tryd.prog w = .ok (.iface 70 (.agg #[.pointer (some ⟨8, 41, none⟩)])) w := by kernel_rfl
theorem asg41 (w : World) : (asgF #[.agg #[.pointer (some ⟨8, 41, none⟩)], .iface 70 (.agg #[.pointer (some ⟨8, 41, none⟩)])]).run Tryd.prog w = .ok (.bool true) w := by kernel_rfl
theorem valueOf41 (n : Int) (w : World) : (ReflectliteValue.unpack (.iface 41 (.int .u8 n))).run Tryd.prog w
    = .ok (.agg #[.pointer (some ⟨8, 41, none⟩), .pointer (some ⟨w.heap.size, 0, none⟩), .int .u64 136]) (w.alloc (.cells #[.int .u8 n] 41)) := by kernel_rfl
theorem parts41a (a : Addr) (w : World) : (ReflectliteValue.parts (.agg #[.pointer (some ⟨8, 41, none⟩), .pointer (some a), .int .u64 392])).run Tryd.prog w = .ok (some (41, a, 392)) w := by kernel_rfl
theorem parts41 (a : Addr) (w : World) : (ReflectliteValue.parts (.agg #[.pointer (some ⟨8, 41, none⟩), .pointer (some a), .int .u64 136])).run Tryd.prog w = .ok (some (41, a, 136)) w := by kernel_rfl
theorem direct41 (w : World) : (Rtype.directlyAssignable 41 41).run Tryd.prog w = .ok true w := by kernel_rfl
theorem set41 (ta b : Addr) (n : Int) (old : Value) (W : World) (hb : W.cell? b = some (.int .u8 n)) (ht : W.cell? ta = some old) (hf : W.frozen? ta = false) :
    (ReflectliteValue.set #[.agg #[.pointer (some ⟨8, 41, none⟩), .pointer (some ta), .int .u64 392], .agg #[.pointer (some ⟨8, 41, none⟩), .pointer (some b), .int .u64 136]]).run Tryd.prog W = .ok (.tuple #[]) (W.setCell ta (.int .u8 n)) := by
  rw [rls]
  simp only [Sem.run_bind, parts41a, parts41, Result.andThen]
  simp [ReflectliteValue.flagAddr, loadVar, isAgg, underlying, Tryd.underlying41, hb, Result.andThen, direct41, storeVar, Value.cells, storeCells, Addr.add]
  rw [run_store Tryd.prog W ta _ _ (by rfl)]
  simp [ht, hf]
theorem valueOf47 (t : Addr) (w : World) : (ReflectliteValue.unpack (.iface 47 (.pointer (some t)))).run Tryd.prog w
    = .ok (.agg #[.pointer (some ⟨8, 47, none⟩), .pointer (some ⟨w.heap.size, 0, none⟩), .int .u64 150]) (w.alloc (.cells #[.pointer (some t)] 47)) := by kernel_rfl
theorem type47 (a : Addr) (w : World) : (typeF #[.agg #[.pointer (some ⟨8, 47, none⟩), .pointer (some a), .int .u64 150]]).run Tryd.prog w = .ok (.iface 70 (.agg #[.pointer (some ⟨8, 47, none⟩)])) w := by kernel_rfl
theorem kind47 (w : World) : (kindF #[.pointer (some ⟨8, 47, none⟩)]).run Tryd.prog w = .ok (.int .u8 22) w := by kernel_rfl
theorem kind42 (w : World) : (kindF #[.pointer (some ⟨8, 42, none⟩)]).run Tryd.prog w = .ok (.int .u8 8) w := by kernel_rfl
theorem parts47 (a : Addr) (w : World) : (ReflectliteValue.parts (.agg #[.pointer (some ⟨8, 47, none⟩), .pointer (some a), .int .u64 150])).run Tryd.prog w = .ok (some (47, a, 150)) w := by kernel_rfl
theorem isNil47 (a p : Addr) (W : World) (ha : W.cell? a = some (.pointer (some p))) : (isNilF #[.agg #[.pointer (some ⟨8, 47, none⟩), .pointer (some a), .int .u64 150]]).run Tryd.prog W = .ok (.bool false) W := by
  unfold isNilF
  rw [rlm]
  simp only [Sem.run_bind, parts47, Result.andThen]
  simp [ReflectliteValue.isNil, loadVar, isAgg, underlying, Tryd.underlying47, ha, Result.andThen]
theorem elemT47 (w : World) : (elemTF #[.agg #[.pointer (some ⟨8, 47, none⟩)]]).run Tryd.prog w = .ok (.iface 70 (.agg #[.pointer (some ⟨8, 42, none⟩)])) w := by kernel_rfl
theorem impl42 (w : World) : (implF #[.agg #[.pointer (some ⟨8, 42, none⟩)], .iface 70 (.agg #[.pointer (some ⟨8, 32, none⟩)])]).run Tryd.prog w = .ok (.bool true) w := by kernel_rfl
theorem elemOf47 (w : World) : (Rtype.elem? 47).run Tryd.prog w = .ok (some 42) w := by kernel_rfl
theorem mk42 (p : Addr) (w : World) : (ReflectliteValue.mk 42 p ReflectliteValue.flagAddr).run Tryd.prog w = .ok (.agg #[.pointer (some ⟨8, 42, none⟩), .pointer (some p), .int .u64 392]) w := by kernel_rfl
theorem elemV47 (a p : Addr) (W : World) (ha : W.cell? a = some (.pointer (some p))) : (elemF #[.agg #[.pointer (some ⟨8, 47, none⟩), .pointer (some a), .int .u64 150]]).run Tryd.prog W = .ok (.agg #[.pointer (some ⟨8, 42, none⟩), .pointer (some p), .int .u64 392]) W := by
  unfold elemF
  rw [rlm]
  simp only [Sem.run_bind, parts47, Result.andThen]
  simp [ReflectliteValue.elem, loadVar, isAgg, underlying, Tryd.underlying47, ha, Result.andThen, elemOf47, mk42]
theorem typeOf42 (v : Value) (w : World) : (ReflectliteType.typeOf #[.iface 42 v]).run Tryd.prog w = .ok (.iface 70 (.agg #[.pointer (some ⟨8, 42, none⟩)])) w := by kernel_rfl
theorem asg42 (w : World) : (asgF #[.agg #[.pointer (some ⟨8, 42, none⟩)], .iface 70 (.agg #[.pointer (some ⟨8, 42, none⟩)])]).run Tryd.prog w = .ok (.bool true) w := by kernel_rfl
theorem valueOf42 (n : Int) (w : World) : (ReflectliteValue.unpack (.iface 42 (.int .u8 n))).run Tryd.prog w
    = .ok (.agg #[.pointer (some ⟨8, 42, none⟩), .pointer (some ⟨w.heap.size, 0, none⟩), .int .u64 136]) (w.alloc (.cells #[.int .u8 n] 42)) := by kernel_rfl
theorem parts42a (a : Addr) (w : World) : (ReflectliteValue.parts (.agg #[.pointer (some ⟨8, 42, none⟩), .pointer (some a), .int .u64 392])).run Tryd.prog w = .ok (some (42, a, 392)) w := by kernel_rfl
theorem parts42 (a : Addr) (w : World) : (ReflectliteValue.parts (.agg #[.pointer (some ⟨8, 42, none⟩), .pointer (some a), .int .u64 136])).run Tryd.prog w = .ok (some (42, a, 136)) w := by kernel_rfl
theorem direct42 (w : World) : (Rtype.directlyAssignable 42 42).run Tryd.prog w = .ok true w := by kernel_rfl
theorem set42 (ta b : Addr) (n : Int) (old : Value) (W : World) (hb : W.cell? b = some (.int .u8 n)) (ht : W.cell? ta = some old) (hf : W.frozen? ta = false) :
    (ReflectliteValue.set #[.agg #[.pointer (some ⟨8, 42, none⟩), .pointer (some ta), .int .u64 392], .agg #[.pointer (some ⟨8, 42, none⟩), .pointer (some b), .int .u64 136]]).run Tryd.prog W = .ok (.tuple #[]) (W.setCell ta (.int .u8 n)) := by
  rw [rls]
  simp only [Sem.run_bind, parts42a, parts42, Result.andThen]
  simp [ReflectliteValue.flagAddr, loadVar, isAgg, underlying, Tryd.underlying42, hb, Result.andThen, direct42, storeVar, Value.cells, storeCells, Addr.add]
  rw [run_store Tryd.prog W ta _ _ (by rfl)]
  simp [ht, hf]
theorem valueOf48 (t : Addr) (w : World) : (ReflectliteValue.unpack (.iface 48 (.pointer (some t)))).run Tryd.prog w
    = .ok (.agg #[.pointer (some ⟨8, 48, none⟩), .pointer (some ⟨w.heap.size, 0, none⟩), .int .u64 150]) (w.alloc (.cells #[.pointer (some t)] 48)) := by kernel_rfl
theorem type48 (a : Addr) (w : World) : (typeF #[.agg #[.pointer (some ⟨8, 48, none⟩), .pointer (some a), .int .u64 150]]).run Tryd.prog w = .ok (.iface 70 (.agg #[.pointer (some ⟨8, 48, none⟩)])) w := by kernel_rfl
theorem kind48 (w : World) : (kindF #[.pointer (some ⟨8, 48, none⟩)]).run Tryd.prog w = .ok (.int .u8 22) w := by kernel_rfl
theorem kind43 (w : World) : (kindF #[.pointer (some ⟨8, 43, none⟩)]).run Tryd.prog w = .ok (.int .u8 2) w := by kernel_rfl
theorem parts48 (a : Addr) (w : World) : (ReflectliteValue.parts (.agg #[.pointer (some ⟨8, 48, none⟩), .pointer (some a), .int .u64 150])).run Tryd.prog w = .ok (some (48, a, 150)) w := by kernel_rfl
theorem isNil48 (a p : Addr) (W : World) (ha : W.cell? a = some (.pointer (some p))) : (isNilF #[.agg #[.pointer (some ⟨8, 48, none⟩), .pointer (some a), .int .u64 150]]).run Tryd.prog W = .ok (.bool false) W := by
  unfold isNilF
  rw [rlm]
  simp only [Sem.run_bind, parts48, Result.andThen]
  simp [ReflectliteValue.isNil, loadVar, isAgg, underlying, Tryd.underlying48, ha, Result.andThen]
theorem elemT48 (w : World) : (elemTF #[.agg #[.pointer (some ⟨8, 48, none⟩)]]).run Tryd.prog w = .ok (.iface 70 (.agg #[.pointer (some ⟨8, 43, none⟩)])) w := by kernel_rfl
theorem impl43 (w : World) : (implF #[.agg #[.pointer (some ⟨8, 43, none⟩)], .iface 70 (.agg #[.pointer (some ⟨8, 32, none⟩)])]).run Tryd.prog w = .ok (.bool true) w := by kernel_rfl
theorem elemOf48 (w : World) : (Rtype.elem? 48).run Tryd.prog w = .ok (some 43) w := by kernel_rfl
theorem mk43 (p : Addr) (w : World) : (ReflectliteValue.mk 43 p ReflectliteValue.flagAddr).run Tryd.prog w = .ok (.agg #[.pointer (some ⟨8, 43, none⟩), .pointer (some p), .int .u64 386]) w := by kernel_rfl
theorem elemV48 (a p : Addr) (W : World) (ha : W.cell? a = some (.pointer (some p))) : (elemF #[.agg #[.pointer (some ⟨8, 48, none⟩), .pointer (some a), .int .u64 150]]).run Tryd.prog W = .ok (.agg #[.pointer (some ⟨8, 43, none⟩), .pointer (some p), .int .u64 386]) W := by
  unfold elemF
  rw [rlm]
  simp only [Sem.run_bind, parts48, Result.andThen]
  simp [ReflectliteValue.elem, loadVar, isAgg, underlying, Tryd.underlying48, ha, Result.andThen, elemOf48, mk43]
theorem typeOf43 (v : Value) (w : World) : (ReflectliteType.typeOf #[.iface 43 v]).run Tryd.prog w = .ok (.iface 70 (.agg #[.pointer (some ⟨8, 43, none⟩)])) w := by kernel_rfl
theorem asg43 (w : World) : (asgF #[.agg #[.pointer (some ⟨8, 43, none⟩)], .iface 70 (.agg #[.pointer (some ⟨8, 43, none⟩)])]).run Tryd.prog w = .ok (.bool true) w := by kernel_rfl
theorem valueOf43 (n : Int) (w : World) : (ReflectliteValue.unpack (.iface 43 (.int .i64 n))).run Tryd.prog w
    = .ok (.agg #[.pointer (some ⟨8, 43, none⟩), .pointer (some ⟨w.heap.size, 0, none⟩), .int .u64 130]) (w.alloc (.cells #[.int .i64 n] 43)) := by kernel_rfl
theorem parts43a (a : Addr) (w : World) : (ReflectliteValue.parts (.agg #[.pointer (some ⟨8, 43, none⟩), .pointer (some a), .int .u64 386])).run Tryd.prog w = .ok (some (43, a, 386)) w := by kernel_rfl
theorem parts43 (a : Addr) (w : World) : (ReflectliteValue.parts (.agg #[.pointer (some ⟨8, 43, none⟩), .pointer (some a), .int .u64 130])).run Tryd.prog w = .ok (some (43, a, 130)) w := by kernel_rfl
theorem direct43 (w : World) : (Rtype.directlyAssignable 43 43).run Tryd.prog w = .ok true w := by kernel_rfl
theorem set43 (ta b : Addr) (n : Int) (old : Value) (W : World) (hb : W.cell? b = some (.int .i64 n)) (ht : W.cell? ta = some old) (hf : W.frozen? ta = false) :
    (ReflectliteValue.set #[.agg #[.pointer (some ⟨8, 43, none⟩), .pointer (some ta), .int .u64 386], .agg #[.pointer (some ⟨8, 43, none⟩), .pointer (some b), .int .u64 130]]).run Tryd.prog W = .ok (.tuple #[]) (W.setCell ta (.int .i64 n)) := by
  rw [rls]
  simp only [Sem.run_bind, parts43a, parts43, Result.andThen]
  simp [ReflectliteValue.flagAddr, loadVar, isAgg, underlying, Tryd.underlying43, hb, Result.andThen, direct43, storeVar, Value.cells, storeCells, Addr.add]
  rw [run_store Tryd.prog W ta _ _ (by rfl)]
  simp [ht, hf]
theorem asgNo42_41 (w : World) : (asgF #[.agg #[.pointer (some ⟨8, 42, none⟩)], .iface 70 (.agg #[.pointer (some ⟨8, 41, none⟩)])]).run Tryd.prog w = .ok (.bool false) w := by kernel_rfl
theorem asgNo42_43 (w : World) : (asgF #[.agg #[.pointer (some ⟨8, 42, none⟩)], .iface 70 (.agg #[.pointer (some ⟨8, 43, none⟩)])]).run Tryd.prog w = .ok (.bool false) w := by kernel_rfl
theorem asgNo43_41 (w : World) : (asgF #[.agg #[.pointer (some ⟨8, 43, none⟩)], .iface 70 (.agg #[.pointer (some ⟨8, 41, none⟩)])]).run Tryd.prog w = .ok (.bool false) w := by kernel_rfl
theorem asgNo43_42 (w : World) : (asgF #[.agg #[.pointer (some ⟨8, 43, none⟩)], .iface 70 (.agg #[.pointer (some ⟨8, 42, none⟩)])]).run Tryd.prog w = .ok (.bool false) w := by kernel_rfl
theorem typeOf95 (v : Value) (w : World) : (ReflectliteType.typeOf #[.iface 95 v]).run Tryd.prog w = .ok (.iface 70 (.agg #[.pointer (some ⟨8, 95, none⟩)])) w := by kernel_rfl
theorem asgNo95_41 (w : World) : (asgF #[.agg #[.pointer (some ⟨8, 95, none⟩)], .iface 70 (.agg #[.pointer (some ⟨8, 41, none⟩)])]).run Tryd.prog w = .ok (.bool false) w := by kernel_rfl
theorem asgNo95_42 (w : World) : (asgF #[.agg #[.pointer (some ⟨8, 95, none⟩)], .iface 70 (.agg #[.pointer (some ⟨8, 42, none⟩)])]).run Tryd.prog w = .ok (.bool false) w := by kernel_rfl
theorem asgNo95_43 (w : World) : (asgF #[.agg #[.pointer (some ⟨8, 95, none⟩)], .iface 70 (.agg #[.pointer (some ⟨8, 43, none⟩)])]).run Tryd.prog w = .ok (.bool false) w := by kernel_rfl
theorem typeOf109 (v : Value) (w : World) : (ReflectliteType.typeOf #[.iface 109 v]).run Tryd.prog w = .ok (.iface 70 (.agg #[.pointer (some ⟨8, 109, none⟩)])) w := by kernel_rfl
theorem asgNo109_41 (w : World) : (asgF #[.agg #[.pointer (some ⟨8, 109, none⟩)], .iface 70 (.agg #[.pointer (some ⟨8, 41, none⟩)])]).run Tryd.prog w = .ok (.bool false) w := by kernel_rfl
theorem asgNo109_42 (w : World) : (asgF #[.agg #[.pointer (some ⟨8, 109, none⟩)], .iface 70 (.agg #[.pointer (some ⟨8, 42, none⟩)])]).run Tryd.prog w = .ok (.bool false) w := by kernel_rfl
theorem asgNo109_43 (w : World) : (asgF #[.agg #[.pointer (some ⟨8, 109, none⟩)], .iface 70 (.agg #[.pointer (some ⟨8, 43, none⟩)])]).run Tryd.prog w = .ok (.bool false) w := by kernel_rfl
set_option maxHeartbeats 4000000 in
/-- errors.As of a number of type 41, at a variable of that type. -/
theorem as_hit41 (n : Int) (t : Addr) (old : Value) (w : World) (hg : w.cell? ⟨2, 0, none⟩ = some (.iface 70 (.agg #[.pointer (some ⟨8, 32, none⟩)]))) (ht0 : w.cell? t = some old) (hf0 : w.frozen? t = false) :
    Calls Tryd.prog 14 #[.iface 41 (.int .u8 n), .iface 46 (.pointer (some t))] w fun ev w' => ev = .returned (.bool true) ∧ w' = ((((w.alloc (.cells #[.pointer (some t)] 46)).alloc (.cells #[.pointer (some ⟨8, 46, none⟩), .pointer (some ⟨w.heap.size, 0, none⟩), .int .u64 150] 56)).alloc (.cells #[.pointer (some ⟨8, 46, none⟩), .pointer (some ⟨w.heap.size, 0, none⟩), .int .u64 150] 56)).alloc (.cells #[.int .u8 n] 41)).setCell t (.int .u8 n) := by
  have h20 := @run_callFunc_extern Tryd.prog 20 _ (fun args => ReflectliteValue.unpack (args.getD 0 (.tuple #[]))) Tryd.func20 (by kernel_rfl) (by kernel_rfl) (by kernel_rfl) (by kernel_rfl)
  have h21 := @run_callFunc_extern Tryd.prog 21 _ typeF Tryd.func21 (by kernel_rfl) (by kernel_rfl) (by kernel_rfl) (by kernel_rfl)
  have h22 := @run_callFunc_extern Tryd.prog 22 _ isNilF Tryd.func22 (by kernel_rfl) (by kernel_rfl) (by kernel_rfl) (by kernel_rfl)
  have h72 := @run_callFunc_extern Tryd.prog 72 _ kindF Tryd.func72 (by kernel_rfl) (by kernel_rfl) (by kernel_rfl) (by kernel_rfl)
  have h86 := @run_callFunc_extern Tryd.prog 86 _ elemTF Tryd.func86 (by kernel_rfl) (by kernel_rfl) (by kernel_rfl) (by kernel_rfl)
  have h87 := @run_callFunc_extern Tryd.prog 87 _ implF Tryd.func87 (by kernel_rfl) (by kernel_rfl) (by kernel_rfl) (by kernel_rfl)
  have h18 := @run_callFunc_extern Tryd.prog 18 _ ReflectliteType.typeOf Tryd.func18 (by kernel_rfl) (by kernel_rfl) (by kernel_rfl) (by kernel_rfl)
  have h84 := @run_callFunc_extern Tryd.prog 84 _ asgF Tryd.func84 (by kernel_rfl) (by kernel_rfl) (by kernel_rfl) (by kernel_rfl)
  have h29 := @run_callFunc_extern Tryd.prog 29 _ elemF Tryd.func29 (by kernel_rfl) (by kernel_rfl) (by kernel_rfl) (by kernel_rfl)
  have h30 := @run_callFunc_extern Tryd.prog 30 _ ReflectliteValue.set Tryd.func30 (by kernel_rfl) (by kernel_rfl) (by kernel_rfl) (by kernel_rfl)
  have mA := methodAssignableTo
  have f6 := valueOf46
  have f7 := type46
  have mK := methodKind
  have mE := methodElem
  have mI := methodImplements
  have kP := kind46
  have kT := kind41
  have eT := elemT46
  have iT := impl41
  have n8 := isNil46 ⟨w.heap.size, 0, none⟩ t ((w.alloc (.cells #[.pointer (some t)] 46)).alloc (.cells #[.pointer (some ⟨8, 46, none⟩), .pointer (some ⟨w.heap.size, 0, none⟩), .int .u64 150] 56)) (by simp)
  have hlt : 2 < w.heap.size := by
    rcases Nat.lt_or_ge 2 w.heap.size with h | h
    · exact h
    · simp [World.cell?, Array.getElem?_eq_none h] at hg
  have hg2 : ((w.alloc (.cells #[.pointer (some t)] 46)).alloc (.cells #[.pointer (some ⟨8, 46, none⟩), .pointer (some ⟨w.heap.size, 0, none⟩), .int .u64 150] 56)).cell? ⟨2, 0, none⟩ = some (.iface 70 (.agg #[.pointer (some ⟨8, 32, none⟩)])) := by
    rw [World.cell?_alloc_lt _ _ ⟨2, 0, none⟩ (by simp; omega), World.cell?_alloc_lt _ _ ⟨2, 0, none⟩ hlt]; exact hg
  have htl : t.block < w.heap.size := by
    rcases Nat.lt_or_ge t.block w.heap.size with h | h
    · exact h
    · simp [World.cell?, Array.getElem?_eq_none h] at ht0
  have tO := typeOf41
  have aT := asg41
  have vT := valueOf41
  have el := elemV46 ⟨w.heap.size, 0, none⟩ t (((w.alloc (.cells #[.pointer (some t)] 46)).alloc (.cells #[.pointer (some ⟨8, 46, none⟩), .pointer (some ⟨w.heap.size, 0, none⟩), .int .u64 150] 56)).alloc (.cells #[.pointer (some ⟨8, 46, none⟩), .pointer (some ⟨w.heap.size, 0, none⟩), .int .u64 150] 56)) (by rw [World.cell?_alloc_lt _ _ ⟨w.heap.size, 0, none⟩ (by simp; omega)]; simp)
  have st := set41 t ⟨w.heap.size + 1 + 1 + 1, 0, none⟩ n old ((((w.alloc (.cells #[.pointer (some t)] 46)).alloc (.cells #[.pointer (some ⟨8, 46, none⟩), .pointer (some ⟨w.heap.size, 0, none⟩), .int .u64 150] 56)).alloc (.cells #[.pointer (some ⟨8, 46, none⟩), .pointer (some ⟨w.heap.size, 0, none⟩), .int .u64 150] 56)).alloc (.cells #[.int .u8 n] 41))
    (by rw [World.cell?_alloc_at _ _ _ _ (by simp)]; rfl)
    (by rw [World.cell?_alloc_lt _ _ t (by simp; omega), World.cell?_alloc_lt _ _ t (by simp; omega), World.cell?_alloc_lt _ _ t (by simp; omega), World.cell?_alloc_lt _ _ t htl]; exact ht0)
    (by rw [World.frozen?_alloc_old _ _ t (by simp; omega), World.frozen?_alloc_old _ _ t (by simp; omega), World.frozen?_alloc_old _ _ t (by simp; omega), World.frozen?_alloc_old _ _ t (Nat.ne_of_lt htl)]; exact hf0)
  go_enter Tryd.func14, Tryd.ntmps14
  go_wp2
  refine wp_loop_rounds 1 ?_
  rw [rounds_succ]
  go_wp2
  go_ret
  exact ⟨rfl, rfl⟩
set_option maxHeartbeats 4000000 in
/-- errors.As of a number of type 42, at a variable of that type. -/
theorem as_hit42 (n : Int) (t : Addr) (old : Value) (w : World) (hg : w.cell? ⟨2, 0, none⟩ = some (.iface 70 (.agg #[.pointer (some ⟨8, 32, none⟩)]))) (ht0 : w.cell? t = some old) (hf0 : w.frozen? t = false) :
    Calls Tryd.prog 14 #[.iface 42 (.int .u8 n), .iface 47 (.pointer (some t))] w fun ev w' => ev = .returned (.bool true) ∧ w' = ((((w.alloc (.cells #[.pointer (some t)] 47)).alloc (.cells #[.pointer (some ⟨8, 47, none⟩), .pointer (some ⟨w.heap.size, 0, none⟩), .int .u64 150] 56)).alloc (.cells #[.pointer (some ⟨8, 47, none⟩), .pointer (some ⟨w.heap.size, 0, none⟩), .int .u64 150] 56)).alloc (.cells #[.int .u8 n] 42)).setCell t (.int .u8 n) := by
  have h20 := @run_callFunc_extern Tryd.prog 20 _ (fun args => ReflectliteValue.unpack (args.getD 0 (.tuple #[]))) Tryd.func20 (by kernel_rfl) (by kernel_rfl) (by kernel_rfl) (by kernel_rfl)
  have h21 := @run_callFunc_extern Tryd.prog 21 _ typeF Tryd.func21 (by kernel_rfl) (by kernel_rfl) (by kernel_rfl) (by kernel_rfl)
  have h22 := @run_callFunc_extern Tryd.prog 22 _ isNilF Tryd.func22 (by kernel_rfl) (by kernel_rfl) (by kernel_rfl) (by kernel_rfl)
  have h72 := @run_callFunc_extern Tryd.prog 72 _ kindF Tryd.func72 (by kernel_rfl) (by kernel_rfl) (by kernel_rfl) (by kernel_rfl)
  have h86 := @run_callFunc_extern Tryd.prog 86 _ elemTF Tryd.func86 (by kernel_rfl) (by kernel_rfl) (by kernel_rfl) (by kernel_rfl)
  have h87 := @run_callFunc_extern Tryd.prog 87 _ implF Tryd.func87 (by kernel_rfl) (by kernel_rfl) (by kernel_rfl) (by kernel_rfl)
  have h18 := @run_callFunc_extern Tryd.prog 18 _ ReflectliteType.typeOf Tryd.func18 (by kernel_rfl) (by kernel_rfl) (by kernel_rfl) (by kernel_rfl)
  have h84 := @run_callFunc_extern Tryd.prog 84 _ asgF Tryd.func84 (by kernel_rfl) (by kernel_rfl) (by kernel_rfl) (by kernel_rfl)
  have h29 := @run_callFunc_extern Tryd.prog 29 _ elemF Tryd.func29 (by kernel_rfl) (by kernel_rfl) (by kernel_rfl) (by kernel_rfl)
  have h30 := @run_callFunc_extern Tryd.prog 30 _ ReflectliteValue.set Tryd.func30 (by kernel_rfl) (by kernel_rfl) (by kernel_rfl) (by kernel_rfl)
  have mA := methodAssignableTo
  have f6 := valueOf47
  have f7 := type47
  have mK := methodKind
  have mE := methodElem
  have mI := methodImplements
  have kP := kind47
  have kT := kind42
  have eT := elemT47
  have iT := impl42
  have n8 := isNil47 ⟨w.heap.size, 0, none⟩ t ((w.alloc (.cells #[.pointer (some t)] 47)).alloc (.cells #[.pointer (some ⟨8, 47, none⟩), .pointer (some ⟨w.heap.size, 0, none⟩), .int .u64 150] 56)) (by simp)
  have hlt : 2 < w.heap.size := by
    rcases Nat.lt_or_ge 2 w.heap.size with h | h
    · exact h
    · simp [World.cell?, Array.getElem?_eq_none h] at hg
  have hg2 : ((w.alloc (.cells #[.pointer (some t)] 47)).alloc (.cells #[.pointer (some ⟨8, 47, none⟩), .pointer (some ⟨w.heap.size, 0, none⟩), .int .u64 150] 56)).cell? ⟨2, 0, none⟩ = some (.iface 70 (.agg #[.pointer (some ⟨8, 32, none⟩)])) := by
    rw [World.cell?_alloc_lt _ _ ⟨2, 0, none⟩ (by simp; omega), World.cell?_alloc_lt _ _ ⟨2, 0, none⟩ hlt]; exact hg
  have htl : t.block < w.heap.size := by
    rcases Nat.lt_or_ge t.block w.heap.size with h | h
    · exact h
    · simp [World.cell?, Array.getElem?_eq_none h] at ht0
  have tO := typeOf42
  have aT := asg42
  have vT := valueOf42
  have el := elemV47 ⟨w.heap.size, 0, none⟩ t (((w.alloc (.cells #[.pointer (some t)] 47)).alloc (.cells #[.pointer (some ⟨8, 47, none⟩), .pointer (some ⟨w.heap.size, 0, none⟩), .int .u64 150] 56)).alloc (.cells #[.pointer (some ⟨8, 47, none⟩), .pointer (some ⟨w.heap.size, 0, none⟩), .int .u64 150] 56)) (by rw [World.cell?_alloc_lt _ _ ⟨w.heap.size, 0, none⟩ (by simp; omega)]; simp)
  have st := set42 t ⟨w.heap.size + 1 + 1 + 1, 0, none⟩ n old ((((w.alloc (.cells #[.pointer (some t)] 47)).alloc (.cells #[.pointer (some ⟨8, 47, none⟩), .pointer (some ⟨w.heap.size, 0, none⟩), .int .u64 150] 56)).alloc (.cells #[.pointer (some ⟨8, 47, none⟩), .pointer (some ⟨w.heap.size, 0, none⟩), .int .u64 150] 56)).alloc (.cells #[.int .u8 n] 42))
    (by rw [World.cell?_alloc_at _ _ _ _ (by simp)]; rfl)
    (by rw [World.cell?_alloc_lt _ _ t (by simp; omega), World.cell?_alloc_lt _ _ t (by simp; omega), World.cell?_alloc_lt _ _ t (by simp; omega), World.cell?_alloc_lt _ _ t htl]; exact ht0)
    (by rw [World.frozen?_alloc_old _ _ t (by simp; omega), World.frozen?_alloc_old _ _ t (by simp; omega), World.frozen?_alloc_old _ _ t (by simp; omega), World.frozen?_alloc_old _ _ t (Nat.ne_of_lt htl)]; exact hf0)
  go_enter Tryd.func14, Tryd.ntmps14
  go_wp2
  refine wp_loop_rounds 1 ?_
  rw [rounds_succ]
  go_wp2
  go_ret
  exact ⟨rfl, rfl⟩
set_option maxHeartbeats 4000000 in
/-- errors.As of a number of type 43, at a variable of that type. -/
theorem as_hit43 (n : Int) (t : Addr) (old : Value) (w : World) (hg : w.cell? ⟨2, 0, none⟩ = some (.iface 70 (.agg #[.pointer (some ⟨8, 32, none⟩)]))) (ht0 : w.cell? t = some old) (hf0 : w.frozen? t = false) :
    Calls Tryd.prog 14 #[.iface 43 (.int .i64 n), .iface 48 (.pointer (some t))] w fun ev w' => ev = .returned (.bool true) ∧ w' = ((((w.alloc (.cells #[.pointer (some t)] 48)).alloc (.cells #[.pointer (some ⟨8, 48, none⟩), .pointer (some ⟨w.heap.size, 0, none⟩), .int .u64 150] 56)).alloc (.cells #[.pointer (some ⟨8, 48, none⟩), .pointer (some ⟨w.heap.size, 0, none⟩), .int .u64 150] 56)).alloc (.cells #[.int .i64 n] 43)).setCell t (.int .i64 n) := by
  have h20 := @run_callFunc_extern Tryd.prog 20 _ (fun args => ReflectliteValue.unpack (args.getD 0 (.tuple #[]))) Tryd.func20 (by kernel_rfl) (by kernel_rfl) (by kernel_rfl) (by kernel_rfl)
  have h21 := @run_callFunc_extern Tryd.prog 21 _ typeF Tryd.func21 (by kernel_rfl) (by kernel_rfl) (by kernel_rfl) (by kernel_rfl)
  have h22 := @run_callFunc_extern Tryd.prog 22 _ isNilF Tryd.func22 (by kernel_rfl) (by kernel_rfl) (by kernel_rfl) (by kernel_rfl)
  have h72 := @run_callFunc_extern Tryd.prog 72 _ kindF Tryd.func72 (by kernel_rfl) (by kernel_rfl) (by kernel_rfl) (by kernel_rfl)
  have h86 := @run_callFunc_extern Tryd.prog 86 _ elemTF Tryd.func86 (by kernel_rfl) (by kernel_rfl) (by kernel_rfl) (by kernel_rfl)
  have h87 := @run_callFunc_extern Tryd.prog 87 _ implF Tryd.func87 (by kernel_rfl) (by kernel_rfl) (by kernel_rfl) (by kernel_rfl)
  have h18 := @run_callFunc_extern Tryd.prog 18 _ ReflectliteType.typeOf Tryd.func18 (by kernel_rfl) (by kernel_rfl) (by kernel_rfl) (by kernel_rfl)
  have h84 := @run_callFunc_extern Tryd.prog 84 _ asgF Tryd.func84 (by kernel_rfl) (by kernel_rfl) (by kernel_rfl) (by kernel_rfl)
  have h29 := @run_callFunc_extern Tryd.prog 29 _ elemF Tryd.func29 (by kernel_rfl) (by kernel_rfl) (by kernel_rfl) (by kernel_rfl)
  have h30 := @run_callFunc_extern Tryd.prog 30 _ ReflectliteValue.set Tryd.func30 (by kernel_rfl) (by kernel_rfl) (by kernel_rfl) (by kernel_rfl)
  have mA := methodAssignableTo
  have f6 := valueOf48
  have f7 := type48
  have mK := methodKind
  have mE := methodElem
  have mI := methodImplements
  have kP := kind48
  have kT := kind43
  have eT := elemT48
  have iT := impl43
  have n8 := isNil48 ⟨w.heap.size, 0, none⟩ t ((w.alloc (.cells #[.pointer (some t)] 48)).alloc (.cells #[.pointer (some ⟨8, 48, none⟩), .pointer (some ⟨w.heap.size, 0, none⟩), .int .u64 150] 56)) (by simp)
  have hlt : 2 < w.heap.size := by
    rcases Nat.lt_or_ge 2 w.heap.size with h | h
    · exact h
    · simp [World.cell?, Array.getElem?_eq_none h] at hg
  have hg2 : ((w.alloc (.cells #[.pointer (some t)] 48)).alloc (.cells #[.pointer (some ⟨8, 48, none⟩), .pointer (some ⟨w.heap.size, 0, none⟩), .int .u64 150] 56)).cell? ⟨2, 0, none⟩ = some (.iface 70 (.agg #[.pointer (some ⟨8, 32, none⟩)])) := by
    rw [World.cell?_alloc_lt _ _ ⟨2, 0, none⟩ (by simp; omega), World.cell?_alloc_lt _ _ ⟨2, 0, none⟩ hlt]; exact hg
  have htl : t.block < w.heap.size := by
    rcases Nat.lt_or_ge t.block w.heap.size with h | h
    · exact h
    · simp [World.cell?, Array.getElem?_eq_none h] at ht0
  have tO := typeOf43
  have aT := asg43
  have vT := valueOf43
  have el := elemV48 ⟨w.heap.size, 0, none⟩ t (((w.alloc (.cells #[.pointer (some t)] 48)).alloc (.cells #[.pointer (some ⟨8, 48, none⟩), .pointer (some ⟨w.heap.size, 0, none⟩), .int .u64 150] 56)).alloc (.cells #[.pointer (some ⟨8, 48, none⟩), .pointer (some ⟨w.heap.size, 0, none⟩), .int .u64 150] 56)) (by rw [World.cell?_alloc_lt _ _ ⟨w.heap.size, 0, none⟩ (by simp; omega)]; simp)
  have st := set43 t ⟨w.heap.size + 1 + 1 + 1, 0, none⟩ n old ((((w.alloc (.cells #[.pointer (some t)] 48)).alloc (.cells #[.pointer (some ⟨8, 48, none⟩), .pointer (some ⟨w.heap.size, 0, none⟩), .int .u64 150] 56)).alloc (.cells #[.pointer (some ⟨8, 48, none⟩), .pointer (some ⟨w.heap.size, 0, none⟩), .int .u64 150] 56)).alloc (.cells #[.int .i64 n] 43))
    (by rw [World.cell?_alloc_at _ _ _ _ (by simp)]; rfl)
    (by rw [World.cell?_alloc_lt _ _ t (by simp; omega), World.cell?_alloc_lt _ _ t (by simp; omega), World.cell?_alloc_lt _ _ t (by simp; omega), World.cell?_alloc_lt _ _ t htl]; exact ht0)
    (by rw [World.frozen?_alloc_old _ _ t (by simp; omega), World.frozen?_alloc_old _ _ t (by simp; omega), World.frozen?_alloc_old _ _ t (by simp; omega), World.frozen?_alloc_old _ _ t (Nat.ne_of_lt htl)]; exact hf0)
  go_enter Tryd.func14, Tryd.ntmps14
  go_wp2
  refine wp_loop_rounds 1 ?_
  rw [rounds_succ]
  go_wp2
  go_ret
  exact ⟨rfl, rfl⟩
set_option maxHeartbeats 4000000 in
/-- errors.As of a number of type 42, at a variable of type 41. -/
theorem as_miss42_41 (v : Value) (t : Addr) (old : Value) (w : World) (hg : w.cell? ⟨2, 0, none⟩ = some (.iface 70 (.agg #[.pointer (some ⟨8, 32, none⟩)]))) (ht0 : w.cell? t = some old) (hf0 : w.frozen? t = false) :
    Calls Tryd.prog 14 #[.iface 42 v, .iface 46 (.pointer (some t))] w fun ev w' => ev = .returned (.bool false) ∧ w' = (((w.alloc (.cells #[.pointer (some t)] 46)).alloc (.cells #[.pointer (some ⟨8, 46, none⟩), .pointer (some ⟨w.heap.size, 0, none⟩), .int .u64 150] 56)).alloc (.cells #[.pointer (some ⟨8, 46, none⟩), .pointer (some ⟨w.heap.size, 0, none⟩), .int .u64 150] 56)) := by
  have h20 := @run_callFunc_extern Tryd.prog 20 _ (fun args => ReflectliteValue.unpack (args.getD 0 (.tuple #[]))) Tryd.func20 (by kernel_rfl) (by kernel_rfl) (by kernel_rfl) (by kernel_rfl)
  have h21 := @run_callFunc_extern Tryd.prog 21 _ typeF Tryd.func21 (by kernel_rfl) (by kernel_rfl) (by kernel_rfl) (by kernel_rfl)
  have h22 := @run_callFunc_extern Tryd.prog 22 _ isNilF Tryd.func22 (by kernel_rfl) (by kernel_rfl) (by kernel_rfl) (by kernel_rfl)
  have h72 := @run_callFunc_extern Tryd.prog 72 _ kindF Tryd.func72 (by kernel_rfl) (by kernel_rfl) (by kernel_rfl) (by kernel_rfl)
  have h86 := @run_callFunc_extern Tryd.prog 86 _ elemTF Tryd.func86 (by kernel_rfl) (by kernel_rfl) (by kernel_rfl) (by kernel_rfl)
  have h87 := @run_callFunc_extern Tryd.prog 87 _ implF Tryd.func87 (by kernel_rfl) (by kernel_rfl) (by kernel_rfl) (by kernel_rfl)
  have h18 := @run_callFunc_extern Tryd.prog 18 _ ReflectliteType.typeOf Tryd.func18 (by kernel_rfl) (by kernel_rfl) (by kernel_rfl) (by kernel_rfl)
  have h84 := @run_callFunc_extern Tryd.prog 84 _ asgF Tryd.func84 (by kernel_rfl) (by kernel_rfl) (by kernel_rfl) (by kernel_rfl)
  have h29 := @run_callFunc_extern Tryd.prog 29 _ elemF Tryd.func29 (by kernel_rfl) (by kernel_rfl) (by kernel_rfl) (by kernel_rfl)
  have h30 := @run_callFunc_extern Tryd.prog 30 _ ReflectliteValue.set Tryd.func30 (by kernel_rfl) (by kernel_rfl) (by kernel_rfl) (by kernel_rfl)
  have mA := methodAssignableTo
  have f6 := valueOf46
  have f7 := type46
  have mK := methodKind
  have mE := methodElem
  have mI := methodImplements
  have kP := kind46
  have kT := kind41
  have eT := elemT46
  have iT := impl41
  have n8 := isNil46 ⟨w.heap.size, 0, none⟩ t ((w.alloc (.cells #[.pointer (some t)] 46)).alloc (.cells #[.pointer (some ⟨8, 46, none⟩), .pointer (some ⟨w.heap.size, 0, none⟩), .int .u64 150] 56)) (by simp)
  have hlt : 2 < w.heap.size := by
    rcases Nat.lt_or_ge 2 w.heap.size with h | h
    · exact h
    · simp [World.cell?, Array.getElem?_eq_none h] at hg
  have hg2 : ((w.alloc (.cells #[.pointer (some t)] 46)).alloc (.cells #[.pointer (some ⟨8, 46, none⟩), .pointer (some ⟨w.heap.size, 0, none⟩), .int .u64 150] 56)).cell? ⟨2, 0, none⟩ = some (.iface 70 (.agg #[.pointer (some ⟨8, 32, none⟩)])) := by
    rw [World.cell?_alloc_lt _ _ ⟨2, 0, none⟩ (by simp; omega), World.cell?_alloc_lt _ _ ⟨2, 0, none⟩ hlt]; exact hg
  have htl : t.block < w.heap.size := by
    rcases Nat.lt_or_ge t.block w.heap.size with h | h
    · exact h
    · simp [World.cell?, Array.getElem?_eq_none h] at ht0
  have tO := typeOf42
  have aT := asgNo42_41
  have nA := noAs42
  have uE := noUnwrap42
  have vE := noUnwraps42
  go_enter Tryd.func14, Tryd.ntmps14
  go_wp2
  refine wp_loop_rounds 1 ?_
  rw [rounds_succ]
  go_wp2
  go_ret
  exact ⟨rfl, rfl⟩
set_option maxHeartbeats 4000000 in
/-- errors.As of a number of type 43, at a variable of type 41. -/
theorem as_miss43_41 (v : Value) (t : Addr) (old : Value) (w : World) (hg : w.cell? ⟨2, 0, none⟩ = some (.iface 70 (.agg #[.pointer (some ⟨8, 32, none⟩)]))) (ht0 : w.cell? t = some old) (hf0 : w.frozen? t = false) :
    Calls Tryd.prog 14 #[.iface 43 v, .iface 46 (.pointer (some t))] w fun ev w' => ev = .returned (.bool false) ∧ w' = (((w.alloc (.cells #[.pointer (some t)] 46)).alloc (.cells #[.pointer (some ⟨8, 46, none⟩), .pointer (some ⟨w.heap.size, 0, none⟩), .int .u64 150] 56)).alloc (.cells #[.pointer (some ⟨8, 46, none⟩), .pointer (some ⟨w.heap.size, 0, none⟩), .int .u64 150] 56)) := by
  have h20 := @run_callFunc_extern Tryd.prog 20 _ (fun args => ReflectliteValue.unpack (args.getD 0 (.tuple #[]))) Tryd.func20 (by kernel_rfl) (by kernel_rfl) (by kernel_rfl) (by kernel_rfl)
  have h21 := @run_callFunc_extern Tryd.prog 21 _ typeF Tryd.func21 (by kernel_rfl) (by kernel_rfl) (by kernel_rfl) (by kernel_rfl)
  have h22 := @run_callFunc_extern Tryd.prog 22 _ isNilF Tryd.func22 (by kernel_rfl) (by kernel_rfl) (by kernel_rfl) (by kernel_rfl)
  have h72 := @run_callFunc_extern Tryd.prog 72 _ kindF Tryd.func72 (by kernel_rfl) (by kernel_rfl) (by kernel_rfl) (by kernel_rfl)
  have h86 := @run_callFunc_extern Tryd.prog 86 _ elemTF Tryd.func86 (by kernel_rfl) (by kernel_rfl) (by kernel_rfl) (by kernel_rfl)
  have h87 := @run_callFunc_extern Tryd.prog 87 _ implF Tryd.func87 (by kernel_rfl) (by kernel_rfl) (by kernel_rfl) (by kernel_rfl)
  have h18 := @run_callFunc_extern Tryd.prog 18 _ ReflectliteType.typeOf Tryd.func18 (by kernel_rfl) (by kernel_rfl) (by kernel_rfl) (by kernel_rfl)
  have h84 := @run_callFunc_extern Tryd.prog 84 _ asgF Tryd.func84 (by kernel_rfl) (by kernel_rfl) (by kernel_rfl) (by kernel_rfl)
  have h29 := @run_callFunc_extern Tryd.prog 29 _ elemF Tryd.func29 (by kernel_rfl) (by kernel_rfl) (by kernel_rfl) (by kernel_rfl)
  have h30 := @run_callFunc_extern Tryd.prog 30 _ ReflectliteValue.set Tryd.func30 (by kernel_rfl) (by kernel_rfl) (by kernel_rfl) (by kernel_rfl)
  have mA := methodAssignableTo
  have f6 := valueOf46
  have f7 := type46
  have mK := methodKind
  have mE := methodElem
  have mI := methodImplements
  have kP := kind46
  have kT := kind41
  have eT := elemT46
  have iT := impl41
  have n8 := isNil46 ⟨w.heap.size, 0, none⟩ t ((w.alloc (.cells #[.pointer (some t)] 46)).alloc (.cells #[.pointer (some ⟨8, 46, none⟩), .pointer (some ⟨w.heap.size, 0, none⟩), .int .u64 150] 56)) (by simp)
  have hlt : 2 < w.heap.size := by
    rcases Nat.lt_or_ge 2 w.heap.size with h | h
    · exact h
    · simp [World.cell?, Array.getElem?_eq_none h] at hg
  have hg2 : ((w.alloc (.cells #[.pointer (some t)] 46)).alloc (.cells #[.pointer (some ⟨8, 46, none⟩), .pointer (some ⟨w.heap.size, 0, none⟩), .int .u64 150] 56)).cell? ⟨2, 0, none⟩ = some (.iface 70 (.agg #[.pointer (some ⟨8, 32, none⟩)])) := by
    rw [World.cell?_alloc_lt _ _ ⟨2, 0, none⟩ (by simp; omega), World.cell?_alloc_lt _ _ ⟨2, 0, none⟩ hlt]; exact hg
  have htl : t.block < w.heap.size := by
    rcases Nat.lt_or_ge t.block w.heap.size with h | h
    · exact h
    · simp [World.cell?, Array.getElem?_eq_none h] at ht0
  have tO := typeOf43
  have aT := asgNo43_41
  have nA := noAs43
  have uE := noUnwrap43
  have vE := noUnwraps43
  go_enter Tryd.func14, Tryd.ntmps14
  go_wp2
  refine wp_loop_rounds 1 ?_
  rw [rounds_succ]
  go_wp2
  go_ret
  exact ⟨rfl, rfl⟩
set_option maxHeartbeats 4000000 in
/-- errors.As of a number of type 43, at a variable of type 42. -/
theorem as_miss43_42 (v : Value) (t : Addr) (old : Value) (w : World) (hg : w.cell? ⟨2, 0, none⟩ = some (.iface 70 (.agg #[.pointer (some ⟨8, 32, none⟩)]))) (ht0 : w.cell? t = some old) (hf0 : w.frozen? t = false) :
    Calls Tryd.prog 14 #[.iface 43 v, .iface 47 (.pointer (some t))] w fun ev w' => ev = .returned (.bool false) ∧ w' = (((w.alloc (.cells #[.pointer (some t)] 47)).alloc (.cells #[.pointer (some ⟨8, 47, none⟩), .pointer (some ⟨w.heap.size, 0, none⟩), .int .u64 150] 56)).alloc (.cells #[.pointer (some ⟨8, 47, none⟩), .pointer (some ⟨w.heap.size, 0, none⟩), .int .u64 150] 56)) := by
  have h20 := @run_callFunc_extern Tryd.prog 20 _ (fun args => ReflectliteValue.unpack (args.getD 0 (.tuple #[]))) Tryd.func20 (by kernel_rfl) (by kernel_rfl) (by kernel_rfl) (by kernel_rfl)
  have h21 := @run_callFunc_extern Tryd.prog 21 _ typeF Tryd.func21 (by kernel_rfl) (by kernel_rfl) (by kernel_rfl) (by kernel_rfl)
  have h22 := @run_callFunc_extern Tryd.prog 22 _ isNilF Tryd.func22 (by kernel_rfl) (by kernel_rfl) (by kernel_rfl) (by kernel_rfl)
  have h72 := @run_callFunc_extern Tryd.prog 72 _ kindF Tryd.func72 (by kernel_rfl) (by kernel_rfl) (by kernel_rfl) (by kernel_rfl)
  have h86 := @run_callFunc_extern Tryd.prog 86 _ elemTF Tryd.func86 (by kernel_rfl) (by kernel_rfl) (by kernel_rfl) (by kernel_rfl)
  have h87 := @run_callFunc_extern Tryd.prog 87 _ implF Tryd.func87 (by kernel_rfl) (by kernel_rfl) (by kernel_rfl) (by kernel_rfl)
  have h18 := @run_callFunc_extern Tryd.prog 18 _ ReflectliteType.typeOf Tryd.func18 (by kernel_rfl) (by kernel_rfl) (by kernel_rfl) (by kernel_rfl)
  have h84 := @run_callFunc_extern Tryd.prog 84 _ asgF Tryd.func84 (by kernel_rfl) (by kernel_rfl) (by kernel_rfl) (by kernel_rfl)
  have h29 := @run_callFunc_extern Tryd.prog 29 _ elemF Tryd.func29 (by kernel_rfl) (by kernel_rfl) (by kernel_rfl) (by kernel_rfl)
  have h30 := @run_callFunc_extern Tryd.prog 30 _ ReflectliteValue.set Tryd.func30 (by kernel_rfl) (by kernel_rfl) (by kernel_rfl) (by kernel_rfl)
  have mA := methodAssignableTo
  have f6 := valueOf47
  have f7 := type47
  have mK := methodKind
  have mE := methodElem
  have mI := methodImplements
  have kP := kind47
  have kT := kind42
  have eT := elemT47
  have iT := impl42
  have n8 := isNil47 ⟨w.heap.size, 0, none⟩ t ((w.alloc (.cells #[.pointer (some t)] 47)).alloc (.cells #[.pointer (some ⟨8, 47, none⟩), .pointer (some ⟨w.heap.size, 0, none⟩), .int .u64 150] 56)) (by simp)
  have hlt : 2 < w.heap.size := by
    rcases Nat.lt_or_ge 2 w.heap.size with h | h
    · exact h
    · simp [World.cell?, Array.getElem?_eq_none h] at hg
  have hg2 : ((w.alloc (.cells #[.pointer (some t)] 47)).alloc (.cells #[.pointer (some ⟨8, 47, none⟩), .pointer (some ⟨w.heap.size, 0, none⟩), .int .u64 150] 56)).cell? ⟨2, 0, none⟩ = some (.iface 70 (.agg #[.pointer (some ⟨8, 32, none⟩)])) := by
    rw [World.cell?_alloc_lt _ _ ⟨2, 0, none⟩ (by simp; omega), World.cell?_alloc_lt _ _ ⟨2, 0, none⟩ hlt]; exact hg
  have htl : t.block < w.heap.size := by
    rcases Nat.lt_or_ge t.block w.heap.size with h | h
    · exact h
    · simp [World.cell?, Array.getElem?_eq_none h] at ht0
  have tO := typeOf43
  have aT := asgNo43_42
  have nA := noAs43
  have uE := noUnwrap43
  have vE := noUnwraps43
  go_enter Tryd.func14, Tryd.ntmps14
  go_wp2
  refine wp_loop_rounds 1 ?_
  rw [rounds_succ]
  go_wp2
  go_ret
  exact ⟨rfl, rfl⟩
set_option maxHeartbeats 4000000 in
/-- errors.As of a number's error that wraps a text, at a variable of type 41. -/
theorem as_wrap_41 (pb po : Nat) (a : Addr) (t : Addr) (old : Value) (w : World) (hg : w.cell? ⟨2, 0, none⟩ = some (.iface 70 (.agg #[.pointer (some ⟨8, 32, none⟩)]))) (ht0 : w.cell? t = some old) (hf0 : w.frozen? t = false) (h1 : w.cell? ⟨pb, po + 2, none⟩ = some (.iface 109 (.pointer (some a)))) :
    Calls Tryd.prog 14 #[.iface 95 (.pointer (some ⟨pb, po, none⟩)), .iface 46 (.pointer (some t))] w fun ev w' => ev = .returned (.bool false) ∧ w' = (((w.alloc (.cells #[.pointer (some t)] 46)).alloc (.cells #[.pointer (some ⟨8, 46, none⟩), .pointer (some ⟨w.heap.size, 0, none⟩), .int .u64 150] 56)).alloc (.cells #[.pointer (some ⟨8, 46, none⟩), .pointer (some ⟨w.heap.size, 0, none⟩), .int .u64 150] 56)) := by
  have h20 := @run_callFunc_extern Tryd.prog 20 _ (fun args => ReflectliteValue.unpack (args.getD 0 (.tuple #[]))) Tryd.func20 (by kernel_rfl) (by kernel_rfl) (by kernel_rfl) (by kernel_rfl)
  have h21 := @run_callFunc_extern Tryd.prog 21 _ typeF Tryd.func21 (by kernel_rfl) (by kernel_rfl) (by kernel_rfl) (by kernel_rfl)
  have h22 := @run_callFunc_extern Tryd.prog 22 _ isNilF Tryd.func22 (by kernel_rfl) (by kernel_rfl) (by kernel_rfl) (by kernel_rfl)
  have h72 := @run_callFunc_extern Tryd.prog 72 _ kindF Tryd.func72 (by kernel_rfl) (by kernel_rfl) (by kernel_rfl) (by kernel_rfl)
  have h86 := @run_callFunc_extern Tryd.prog 86 _ elemTF Tryd.func86 (by kernel_rfl) (by kernel_rfl) (by kernel_rfl) (by kernel_rfl)
  have h87 := @run_callFunc_extern Tryd.prog 87 _ implF Tryd.func87 (by kernel_rfl) (by kernel_rfl) (by kernel_rfl) (by kernel_rfl)
  have h18 := @run_callFunc_extern Tryd.prog 18 _ ReflectliteType.typeOf Tryd.func18 (by kernel_rfl) (by kernel_rfl) (by kernel_rfl) (by kernel_rfl)
  have h84 := @run_callFunc_extern Tryd.prog 84 _ asgF Tryd.func84 (by kernel_rfl) (by kernel_rfl) (by kernel_rfl) (by kernel_rfl)
  have h29 := @run_callFunc_extern Tryd.prog 29 _ elemF Tryd.func29 (by kernel_rfl) (by kernel_rfl) (by kernel_rfl) (by kernel_rfl)
  have h30 := @run_callFunc_extern Tryd.prog 30 _ ReflectliteValue.set Tryd.func30 (by kernel_rfl) (by kernel_rfl) (by kernel_rfl) (by kernel_rfl)
  have mA := methodAssignableTo
  have f6 := valueOf46
  have f7 := type46
  have mK := methodKind
  have mE := methodElem
  have mI := methodImplements
  have kP := kind46
  have kT := kind41
  have eT := elemT46
  have iT := impl41
  have n8 := isNil46 ⟨w.heap.size, 0, none⟩ t ((w.alloc (.cells #[.pointer (some t)] 46)).alloc (.cells #[.pointer (some ⟨8, 46, none⟩), .pointer (some ⟨w.heap.size, 0, none⟩), .int .u64 150] 56)) (by simp)
  have hlt : 2 < w.heap.size := by
    rcases Nat.lt_or_ge 2 w.heap.size with h | h
    · exact h
    · simp [World.cell?, Array.getElem?_eq_none h] at hg
  have hg2 : ((w.alloc (.cells #[.pointer (some t)] 46)).alloc (.cells #[.pointer (some ⟨8, 46, none⟩), .pointer (some ⟨w.heap.size, 0, none⟩), .int .u64 150] 56)).cell? ⟨2, 0, none⟩ = some (.iface 70 (.agg #[.pointer (some ⟨8, 32, none⟩)])) := by
    rw [World.cell?_alloc_lt _ _ ⟨2, 0, none⟩ (by simp; omega), World.cell?_alloc_lt _ _ ⟨2, 0, none⟩ hlt]; exact hg
  have htl : t.block < w.heap.size := by
    rcases Nat.lt_or_ge t.block w.heap.size with h | h
    · exact h
    · simp [World.cell?, Array.getElem?_eq_none h] at ht0
  have tO := typeOf95
  have tO2 := typeOf109
  have aT := asgNo95_41
  have aT2 := asgNo109_41
  have nA := noAs95
  have nA2 := noAs109
  have uW := hasUnwrap95
  have mU := methodUnwrap
  have uE := noUnwrap109
  have vE := noUnwraps109
  have hpl : pb < w.heap.size := by
    rcases Nat.lt_or_ge pb w.heap.size with h | h
    · exact h
    · simp [World.cell?, Array.getElem?_eq_none h] at h1
  have h13 : (((w.alloc (.cells #[.pointer (some t)] 46)).alloc (.cells #[.pointer (some ⟨8, 46, none⟩), .pointer (some ⟨w.heap.size, 0, none⟩), .int .u64 150] 56)).alloc (.cells #[.pointer (some ⟨8, 46, none⟩), .pointer (some ⟨w.heap.size, 0, none⟩), .int .u64 150] 56)).cell? ⟨pb, po + 2, none⟩ = some (.iface 109 (.pointer (some a))) := by
    rw [World.cell?_alloc_lt _ _ ⟨pb, po + 2, none⟩ (by simp; omega), World.cell?_alloc_lt _ _ ⟨pb, po + 2, none⟩ (by simp; omega), World.cell?_alloc_lt _ _ ⟨pb, po + 2, none⟩ hpl]; exact h1
  go_enter Tryd.func14, Tryd.ntmps14
  go_wp2
  refine wp_loop_rounds 2 ?_
  rw [rounds_succ]
  go_wp2
  rw [rounds_succ]
  go_wp2
  go_ret
  exact ⟨rfl, rfl⟩
set_option maxHeartbeats 4000000 in
/-- errors.As of a number's error that wraps a text, at a variable of type 42. -/
theorem as_wrap_42 (pb po : Nat) (a : Addr) (t : Addr) (old : Value) (w : World) (hg : w.cell? ⟨2, 0, none⟩ = some (.iface 70 (.agg #[.pointer (some ⟨8, 32, none⟩)]))) (ht0 : w.cell? t = some old) (hf0 : w.frozen? t = false) (h1 : w.cell? ⟨pb, po + 2, none⟩ = some (.iface 109 (.pointer (some a)))) :
    Calls Tryd.prog 14 #[.iface 95 (.pointer (some ⟨pb, po, none⟩)), .iface 47 (.pointer (some t))] w fun ev w' => ev = .returned (.bool false) ∧ w' = (((w.alloc (.cells #[.pointer (some t)] 47)).alloc (.cells #[.pointer (some ⟨8, 47, none⟩), .pointer (some ⟨w.heap.size, 0, none⟩), .int .u64 150] 56)).alloc (.cells #[.pointer (some ⟨8, 47, none⟩), .pointer (some ⟨w.heap.size, 0, none⟩), .int .u64 150] 56)) := by
  have h20 := @run_callFunc_extern Tryd.prog 20 _ (fun args => ReflectliteValue.unpack (args.getD 0 (.tuple #[]))) Tryd.func20 (by kernel_rfl) (by kernel_rfl) (by kernel_rfl) (by kernel_rfl)
  have h21 := @run_callFunc_extern Tryd.prog 21 _ typeF Tryd.func21 (by kernel_rfl) (by kernel_rfl) (by kernel_rfl) (by kernel_rfl)
  have h22 := @run_callFunc_extern Tryd.prog 22 _ isNilF Tryd.func22 (by kernel_rfl) (by kernel_rfl) (by kernel_rfl) (by kernel_rfl)
  have h72 := @run_callFunc_extern Tryd.prog 72 _ kindF Tryd.func72 (by kernel_rfl) (by kernel_rfl) (by kernel_rfl) (by kernel_rfl)
  have h86 := @run_callFunc_extern Tryd.prog 86 _ elemTF Tryd.func86 (by kernel_rfl) (by kernel_rfl) (by kernel_rfl) (by kernel_rfl)
  have h87 := @run_callFunc_extern Tryd.prog 87 _ implF Tryd.func87 (by kernel_rfl) (by kernel_rfl) (by kernel_rfl) (by kernel_rfl)
  have h18 := @run_callFunc_extern Tryd.prog 18 _ ReflectliteType.typeOf Tryd.func18 (by kernel_rfl) (by kernel_rfl) (by kernel_rfl) (by kernel_rfl)
  have h84 := @run_callFunc_extern Tryd.prog 84 _ asgF Tryd.func84 (by kernel_rfl) (by kernel_rfl) (by kernel_rfl) (by kernel_rfl)
  have h29 := @run_callFunc_extern Tryd.prog 29 _ elemF Tryd.func29 (by kernel_rfl) (by kernel_rfl) (by kernel_rfl) (by kernel_rfl)
  have h30 := @run_callFunc_extern Tryd.prog 30 _ ReflectliteValue.set Tryd.func30 (by kernel_rfl) (by kernel_rfl) (by kernel_rfl) (by kernel_rfl)
  have mA := methodAssignableTo
  have f6 := valueOf47
  have f7 := type47
  have mK := methodKind
  have mE := methodElem
  have mI := methodImplements
  have kP := kind47
  have kT := kind42
  have eT := elemT47
  have iT := impl42
  have n8 := isNil47 ⟨w.heap.size, 0, none⟩ t ((w.alloc (.cells #[.pointer (some t)] 47)).alloc (.cells #[.pointer (some ⟨8, 47, none⟩), .pointer (some ⟨w.heap.size, 0, none⟩), .int .u64 150] 56)) (by simp)
  have hlt : 2 < w.heap.size := by
    rcases Nat.lt_or_ge 2 w.heap.size with h | h
    · exact h
    · simp [World.cell?, Array.getElem?_eq_none h] at hg
  have hg2 : ((w.alloc (.cells #[.pointer (some t)] 47)).alloc (.cells #[.pointer (some ⟨8, 47, none⟩), .pointer (some ⟨w.heap.size, 0, none⟩), .int .u64 150] 56)).cell? ⟨2, 0, none⟩ = some (.iface 70 (.agg #[.pointer (some ⟨8, 32, none⟩)])) := by
    rw [World.cell?_alloc_lt _ _ ⟨2, 0, none⟩ (by simp; omega), World.cell?_alloc_lt _ _ ⟨2, 0, none⟩ hlt]; exact hg
  have htl : t.block < w.heap.size := by
    rcases Nat.lt_or_ge t.block w.heap.size with h | h
    · exact h
    · simp [World.cell?, Array.getElem?_eq_none h] at ht0
  have tO := typeOf95
  have tO2 := typeOf109
  have aT := asgNo95_42
  have aT2 := asgNo109_42
  have nA := noAs95
  have nA2 := noAs109
  have uW := hasUnwrap95
  have mU := methodUnwrap
  have uE := noUnwrap109
  have vE := noUnwraps109
  have hpl : pb < w.heap.size := by
    rcases Nat.lt_or_ge pb w.heap.size with h | h
    · exact h
    · simp [World.cell?, Array.getElem?_eq_none h] at h1
  have h13 : (((w.alloc (.cells #[.pointer (some t)] 47)).alloc (.cells #[.pointer (some ⟨8, 47, none⟩), .pointer (some ⟨w.heap.size, 0, none⟩), .int .u64 150] 56)).alloc (.cells #[.pointer (some ⟨8, 47, none⟩), .pointer (some ⟨w.heap.size, 0, none⟩), .int .u64 150] 56)).cell? ⟨pb, po + 2, none⟩ = some (.iface 109 (.pointer (some a))) := by
    rw [World.cell?_alloc_lt _ _ ⟨pb, po + 2, none⟩ (by simp; omega), World.cell?_alloc_lt _ _ ⟨pb, po + 2, none⟩ (by simp; omega), World.cell?_alloc_lt _ _ ⟨pb, po + 2, none⟩ hpl]; exact h1
  go_enter Tryd.func14, Tryd.ntmps14
  go_wp2
  refine wp_loop_rounds 2 ?_
  rw [rounds_succ]
  go_wp2
  rw [rounds_succ]
  go_wp2
  go_ret
  exact ⟨rfl, rfl⟩
set_option maxHeartbeats 4000000 in
/-- errors.As of a number's error that wraps a text, at a variable of type 43. -/
theorem as_wrap_43 (pb po : Nat) (a : Addr) (t : Addr) (old : Value) (w : World) (hg : w.cell? ⟨2, 0, none⟩ = some (.iface 70 (.agg #[.pointer (some ⟨8, 32, none⟩)]))) (ht0 : w.cell? t = some old) (hf0 : w.frozen? t = false) (h1 : w.cell? ⟨pb, po + 2, none⟩ = some (.iface 109 (.pointer (some a)))) :
    Calls Tryd.prog 14 #[.iface 95 (.pointer (some ⟨pb, po, none⟩)), .iface 48 (.pointer (some t))] w fun ev w' => ev = .returned (.bool false) ∧ w' = (((w.alloc (.cells #[.pointer (some t)] 48)).alloc (.cells #[.pointer (some ⟨8, 48, none⟩), .pointer (some ⟨w.heap.size, 0, none⟩), .int .u64 150] 56)).alloc (.cells #[.pointer (some ⟨8, 48, none⟩), .pointer (some ⟨w.heap.size, 0, none⟩), .int .u64 150] 56)) := by
  have h20 := @run_callFunc_extern Tryd.prog 20 _ (fun args => ReflectliteValue.unpack (args.getD 0 (.tuple #[]))) Tryd.func20 (by kernel_rfl) (by kernel_rfl) (by kernel_rfl) (by kernel_rfl)
  have h21 := @run_callFunc_extern Tryd.prog 21 _ typeF Tryd.func21 (by kernel_rfl) (by kernel_rfl) (by kernel_rfl) (by kernel_rfl)
  have h22 := @run_callFunc_extern Tryd.prog 22 _ isNilF Tryd.func22 (by kernel_rfl) (by kernel_rfl) (by kernel_rfl) (by kernel_rfl)
  have h72 := @run_callFunc_extern Tryd.prog 72 _ kindF Tryd.func72 (by kernel_rfl) (by kernel_rfl) (by kernel_rfl) (by kernel_rfl)
  have h86 := @run_callFunc_extern Tryd.prog 86 _ elemTF Tryd.func86 (by kernel_rfl) (by kernel_rfl) (by kernel_rfl) (by kernel_rfl)
  have h87 := @run_callFunc_extern Tryd.prog 87 _ implF Tryd.func87 (by kernel_rfl) (by kernel_rfl) (by kernel_rfl) (by kernel_rfl)
  have h18 := @run_callFunc_extern Tryd.prog 18 _ ReflectliteType.typeOf Tryd.func18 (by kernel_rfl) (by kernel_rfl) (by kernel_rfl) (by kernel_rfl)
  have h84 := @run_callFunc_extern Tryd.prog 84 _ asgF Tryd.func84 (by kernel_rfl) (by kernel_rfl) (by kernel_rfl) (by kernel_rfl)
  have h29 := @run_callFunc_extern Tryd.prog 29 _ elemF Tryd.func29 (by kernel_rfl) (by kernel_rfl) (by kernel_rfl) (by kernel_rfl)
  have h30 := @run_callFunc_extern Tryd.prog 30 _ ReflectliteValue.set Tryd.func30 (by kernel_rfl) (by kernel_rfl) (by kernel_rfl) (by kernel_rfl)
  have mA := methodAssignableTo
  have f6 := valueOf48
  have f7 := type48
  have mK := methodKind
  have mE := methodElem
  have mI := methodImplements
  have kP := kind48
  have kT := kind43
  have eT := elemT48
  have iT := impl43
  have n8 := isNil48 ⟨w.heap.size, 0, none⟩ t ((w.alloc (.cells #[.pointer (some t)] 48)).alloc (.cells #[.pointer (some ⟨8, 48, none⟩), .pointer (some ⟨w.heap.size, 0, none⟩), .int .u64 150] 56)) (by simp)
  have hlt : 2 < w.heap.size := by
    rcases Nat.lt_or_ge 2 w.heap.size with h | h
    · exact h
    · simp [World.cell?, Array.getElem?_eq_none h] at hg
  have hg2 : ((w.alloc (.cells #[.pointer (some t)] 48)).alloc (.cells #[.pointer (some ⟨8, 48, none⟩), .pointer (some ⟨w.heap.size, 0, none⟩), .int .u64 150] 56)).cell? ⟨2, 0, none⟩ = some (.iface 70 (.agg #[.pointer (some ⟨8, 32, none⟩)])) := by
    rw [World.cell?_alloc_lt _ _ ⟨2, 0, none⟩ (by simp; omega), World.cell?_alloc_lt _ _ ⟨2, 0, none⟩ hlt]; exact hg
  have htl : t.block < w.heap.size := by
    rcases Nat.lt_or_ge t.block w.heap.size with h | h
    · exact h
    · simp [World.cell?, Array.getElem?_eq_none h] at ht0
  have tO := typeOf95
  have tO2 := typeOf109
  have aT := asgNo95_43
  have aT2 := asgNo109_43
  have nA := noAs95
  have nA2 := noAs109
  have uW := hasUnwrap95
  have mU := methodUnwrap
  have uE := noUnwrap109
  have vE := noUnwraps109
  have hpl : pb < w.heap.size := by
    rcases Nat.lt_or_ge pb w.heap.size with h | h
    · exact h
    · simp [World.cell?, Array.getElem?_eq_none h] at h1
  have h13 : (((w.alloc (.cells #[.pointer (some t)] 48)).alloc (.cells #[.pointer (some ⟨8, 48, none⟩), .pointer (some ⟨w.heap.size, 0, none⟩), .int .u64 150] 56)).alloc (.cells #[.pointer (some ⟨8, 48, none⟩), .pointer (some ⟨w.heap.size, 0, none⟩), .int .u64 150] 56)).cell? ⟨pb, po + 2, none⟩ = some (.iface 109 (.pointer (some a))) := by
    rw [World.cell?_alloc_lt _ _ ⟨pb, po + 2, none⟩ (by simp; omega), World.cell?_alloc_lt _ _ ⟨pb, po + 2, none⟩ (by simp; omega), World.cell?_alloc_lt _ _ ⟨pb, po + 2, none⟩ hpl]; exact h1
  go_enter Tryd.func14, Tryd.ntmps14
  go_wp2
  refine wp_loop_rounds 2 ?_
  rw [rounds_succ]
  go_wp2
  rw [rounds_succ]
  go_wp2
  go_ret
  exact ⟨rfl, rfl⟩
end Go.Proofs.YtacdmigmccfcfaaDoor

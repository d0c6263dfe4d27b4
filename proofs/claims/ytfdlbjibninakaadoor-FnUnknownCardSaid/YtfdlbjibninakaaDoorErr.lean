/- errors.Is and errors.As at the two error types of the package and at its sentinels; impl.fault. -/
import Derived.Test.YtfdlbjibninakaaDoorBase2
import Derived.LaidEql
import Derived.Stop.Asserts
import Derived.RowKitTokens
set_option linter.unusedVariables false
set_option linter.unusedSimpArgs false
namespace Go.Proofs.YtfdlbjibninakaaDoor
open Go.RowKit Go.Extern.Stop Go.Stop Go.Extern

/-- The descriptor of type t. -/
abbrev hd (t : Nat) : Value := .pointer (some ⟨11, t, none⟩)

theorem valueOfPC (t : Addr) (w : World) : (ReflectliteValue.unpack (.iface 129 (.pointer (some t)))).run Tryd.prog w
    = .ok (.agg #[hd 129, .pointer (some ⟨w.heap.size, 0, none⟩), .int .u64 150]) (w.alloc (.cells #[.pointer (some t)] 129)) := by kernel_rfl
theorem valueOfPS (t : Addr) (w : World) : (ReflectliteValue.unpack (.iface 130 (.pointer (some t)))).run Tryd.prog w
    = .ok (.agg #[hd 130, .pointer (some ⟨w.heap.size, 0, none⟩), .int .u64 150]) (w.alloc (.cells #[.pointer (some t)] 130)) := by kernel_rfl
theorem typePC (a : Addr) (w : World) : (ReflectliteValue.methodAny (ReflectliteValue.valueError "reflectlite.Value.Type" 0) (fun t _ _ _ => ReflectliteType.toType t) #[.agg #[hd 129, .pointer (some a), .int .u64 150]]).run Tryd.prog w
    = .ok (.iface 233 (.agg #[hd 129])) w := by kernel_rfl
theorem typePS (a : Addr) (w : World) : (ReflectliteValue.methodAny (ReflectliteValue.valueError "reflectlite.Value.Type" 0) (fun t _ _ _ => ReflectliteType.toType t) #[.agg #[hd 130, .pointer (some a), .int .u64 150]]).run Tryd.prog w
    = .ok (.iface 233 (.agg #[hd 130])) w := by kernel_rfl
theorem methodKind (h : Value) (w : World) : (Go.method 389 233 (.agg #[h]) "Kind").run Tryd.prog w = .ok (144, h) w := by kernel_rfl
theorem methodComparable (h : Value) (w : World) : (Go.method 389 233 (.agg #[h]) "Comparable").run Tryd.prog w = .ok (162, .agg #[h]) w := by kernel_rfl
theorem methodElem (h : Value) (w : World) : (Go.method 389 233 (.agg #[h]) "Elem").run Tryd.prog w = .ok (163, .agg #[h]) w := by kernel_rfl
theorem methodImplements (h : Value) (w : World) : (Go.method 389 233 (.agg #[h]) "Implements").run Tryd.prog w = .ok (164, .agg #[h]) w := by kernel_rfl
theorem methodAssignableTo (h : Value) (w : World) : (Go.method 389 233 (.agg #[h]) "AssignableTo").run Tryd.prog w = .ok (161, .agg #[h]) w := by kernel_rfl
theorem kindPC (w : World) : ((ReflectliteType.abiMethod fun t => (fun a : Nat => Value.int IntKind.u8 (a : Int)) <$> Rtype.kind t) #[hd 129]).run Tryd.prog w = .ok (.int .u8 22) w := by kernel_rfl
theorem kindPS (w : World) : ((ReflectliteType.abiMethod fun t => (fun a : Nat => Value.int IntKind.u8 (a : Int)) <$> Rtype.kind t) #[hd 130]).run Tryd.prog w = .ok (.int .u8 22) w := by kernel_rfl
theorem kindC (w : World) : ((ReflectliteType.abiMethod fun t => (fun a : Nat => Value.int IntKind.u8 (a : Int)) <$> Rtype.kind t) #[hd 123]).run Tryd.prog w = .ok (.int .u8 10) w := by kernel_rfl
theorem kindS (w : World) : ((ReflectliteType.abiMethod fun t => (fun a : Nat => Value.int IntKind.u8 (a : Int)) <$> Rtype.kind t) #[hd 126]).run Tryd.prog w = .ok (.int .u8 25) w := by kernel_rfl
theorem elemPC (w : World) : (ReflectliteType.method ReflectliteType.elem #[.agg #[hd 129]]).run Tryd.prog w = .ok (.iface 233 (.agg #[hd 123])) w := by kernel_rfl
theorem elemPS (w : World) : (ReflectliteType.method ReflectliteType.elem #[.agg #[hd 130]]).run Tryd.prog w = .ok (.iface 233 (.agg #[hd 126])) w := by kernel_rfl
theorem implC (w : World) : (ReflectliteType.relation "Implements" ReflectliteType.implements_ #[.agg #[hd 123], .iface 233 (.agg #[hd 75])]).run Tryd.prog w = .ok (.bool true) w := by kernel_rfl
theorem implS (w : World) : (ReflectliteType.relation "Implements" ReflectliteType.implements_ #[.agg #[hd 126], .iface 233 (.agg #[hd 75])]).run Tryd.prog w = .ok (.bool true) w := by kernel_rfl
theorem typeOfC (v : Value) (w : World) : (ReflectliteType.typeOf #[.iface 123 v]).run Tryd.prog w = .ok (.iface 233 (.agg #[hd 123])) w := by kernel_rfl
theorem typeOfS (v : Value) (w : World) : (ReflectliteType.typeOf #[.iface 126 v]).run Tryd.prog w = .ok (.iface 233 (.agg #[hd 126])) w := by kernel_rfl
theorem typeOfE (v : Value) (w : World) : (ReflectliteType.typeOf #[.iface 247 v]).run Tryd.prog w = .ok (.iface 233 (.agg #[hd 247])) w := by kernel_rfl
theorem asgCC (w : World) : (ReflectliteType.relation "AssignableTo" ReflectliteType.assignableTo #[.agg #[hd 123], .iface 233 (.agg #[hd 123])]).run Tryd.prog w = .ok (.bool true) w := by kernel_rfl
theorem asgSC (w : World) : (ReflectliteType.relation "AssignableTo" ReflectliteType.assignableTo #[.agg #[hd 126], .iface 233 (.agg #[hd 123])]).run Tryd.prog w = .ok (.bool false) w := by kernel_rfl
theorem asgSS (w : World) : (ReflectliteType.relation "AssignableTo" ReflectliteType.assignableTo #[.agg #[hd 126], .iface 233 (.agg #[hd 126])]).run Tryd.prog w = .ok (.bool true) w := by kernel_rfl
theorem valueOfC (c : Int) (w : World) : (ReflectliteValue.unpack (.iface 123 (.int .u32 c))).run Tryd.prog w
    = .ok (.agg #[hd 123, .pointer (some ⟨w.heap.size, 0, none⟩), .int .u64 138]) (w.alloc (.cells #[.int .u32 c] 123)) := by kernel_rfl
theorem valueOfS (i c : Int) (w : World) : (ReflectliteValue.unpack (.iface 126 (.agg #[.int .u32 i, .int .u32 c, .nilIface]))).run Tryd.prog w
    = .ok (.agg #[hd 126, .pointer (some ⟨w.heap.size, 0, none⟩), .int .u64 153]) (w.alloc (.cells #[.int .u32 i, .int .u32 c, .nilIface] 126)) := by kernel_rfl
theorem rlm (z : Sem Value) (f : TypeId → Addr → Nat → Nat → Sem Value) (v : Value) :
    ReflectliteValue.method z f #[v] = (do match ← ReflectliteValue.parts v with | none => z | some (t, a, fl) => f t a fl (fl % 32)) := rfl
theorem partsPC (a : Addr) (w : World) : (ReflectliteValue.parts (.agg #[hd 129, .pointer (some a), .int .u64 150])).run Tryd.prog w = .ok (some (129, a, 150)) w := by kernel_rfl
theorem partsPS (a : Addr) (w : World) : (ReflectliteValue.parts (.agg #[hd 130, .pointer (some a), .int .u64 150])).run Tryd.prog w = .ok (some (130, a, 150)) w := by kernel_rfl
theorem isNilPC (a p : Addr) (W : World) (ha : W.cell? a = some (.pointer (some p))) :
    (ReflectliteValue.method (ReflectliteValue.valueError "reflectlite.Value.IsNil" 0) ReflectliteValue.isNil #[.agg #[hd 129, .pointer (some a), .int .u64 150]]).run Tryd.prog W = .ok (.bool false) W := by
  rw [rlm]
  simp only [Sem.run_bind, partsPC, Result.andThen]
  simp [ReflectliteValue.isNil, loadVar, isAgg, underlying, Tryd.underlying129, ha, Result.andThen]
theorem isNilPS (a p : Addr) (W : World) (ha : W.cell? a = some (.pointer (some p))) :
    (ReflectliteValue.method (ReflectliteValue.valueError "reflectlite.Value.IsNil" 0) ReflectliteValue.isNil #[.agg #[hd 130, .pointer (some a), .int .u64 150]]).run Tryd.prog W = .ok (.bool false) W := by
  rw [rlm]
  simp only [Sem.run_bind, partsPS, Result.andThen]
  simp [ReflectliteValue.isNil, loadVar, isAgg, underlying, Tryd.underlying130, ha, Result.andThen]
theorem elemOfPC (w : World) : (Rtype.elem? 129).run Tryd.prog w = .ok (some 123) w := by kernel_rfl
theorem elemOfPS (w : World) : (Rtype.elem? 130).run Tryd.prog w = .ok (some 126) w := by kernel_rfl
theorem mkC (p : Addr) (w : World) : (ReflectliteValue.mk 123 p ReflectliteValue.flagAddr).run Tryd.prog w = .ok (.agg #[hd 123, .pointer (some p), .int .u64 394]) w := by kernel_rfl
theorem mkS (p : Addr) (w : World) : (ReflectliteValue.mk 126 p ReflectliteValue.flagAddr).run Tryd.prog w = .ok (.agg #[hd 126, .pointer (some p), .int .u64 409]) w := by kernel_rfl
theorem elemVPC (a p : Addr) (W : World) (ha : W.cell? a = some (.pointer (some p))) :
    (ReflectliteValue.method (ReflectliteValue.valueError "reflectlite.Value.Elem" 0) ReflectliteValue.elem #[.agg #[hd 129, .pointer (some a), .int .u64 150]]).run Tryd.prog W
      = .ok (.agg #[hd 123, .pointer (some p), .int .u64 394]) W := by
  rw [rlm]
  simp only [Sem.run_bind, partsPC, Result.andThen]
  simp [ReflectliteValue.elem, loadVar, isAgg, underlying, Tryd.underlying129, ha, Result.andThen, elemOfPC, mkC]
theorem elemVPS (a p : Addr) (W : World) (ha : W.cell? a = some (.pointer (some p))) :
    (ReflectliteValue.method (ReflectliteValue.valueError "reflectlite.Value.Elem" 0) ReflectliteValue.elem #[.agg #[hd 130, .pointer (some a), .int .u64 150]]).run Tryd.prog W
      = .ok (.agg #[hd 126, .pointer (some p), .int .u64 409]) W := by
  rw [rlm]
  simp only [Sem.run_bind, partsPS, Result.andThen]
  simp [ReflectliteValue.elem, loadVar, isAgg, underlying, Tryd.underlying130, ha, Result.andThen, elemOfPS, mkS]
theorem rls (v x : Value) : ReflectliteValue.set #[v, x] = (do
    let (some (dst, a, fl), some (src, b, _)) := (← ReflectliteValue.parts v, ← ReflectliteValue.parts x)
      | unsupported (.noEntry "extern/(internal/reflectlite.Value).Set.zeroValue")
    if fl / ReflectliteValue.flagAddr % 2 == 0 then unsupported (.noEntry "extern/(internal/reflectlite.Value).Set.unaddressable")
    let val ← loadVar src b
    if ← Rtype.directlyAssignable dst src then storeVar dst a val
    else if ← Rtype.implements dst src then
      if (← Rtype.kind src) == 20 then
        match val with
        | .nilIface => unsupported (.noEntry "extern/reflectlite: a nil value of one interface type handed on as a value of another")
        | _ => storeVar dst a val
      else storeVar dst a (.iface src val)
    else panicString ("reflectlite.Set: value of type " ++ (← Rtype.spelt src) ++ " is not assignable to type " ++ (← Rtype.spelt dst))
    pure (.tuple #[])) := rfl
theorem partsC1 (a : Addr) (w : World) : (ReflectliteValue.parts (.agg #[hd 123, .pointer (some a), .int .u64 138])).run Tryd.prog w = .ok (some (123, a, 138)) w := by kernel_rfl
theorem partsC2 (a : Addr) (w : World) : (ReflectliteValue.parts (.agg #[hd 123, .pointer (some a), .int .u64 394])).run Tryd.prog w = .ok (some (123, a, 394)) w := by kernel_rfl
theorem partsS1 (a : Addr) (w : World) : (ReflectliteValue.parts (.agg #[hd 126, .pointer (some a), .int .u64 153])).run Tryd.prog w = .ok (some (126, a, 153)) w := by kernel_rfl
theorem partsS2 (a : Addr) (w : World) : (ReflectliteValue.parts (.agg #[hd 126, .pointer (some a), .int .u64 409])).run Tryd.prog w = .ok (some (126, a, 409)) w := by kernel_rfl
theorem directC (w : World) : (Rtype.directlyAssignable 123 123).run Tryd.prog w = .ok true w := by kernel_rfl
theorem directS (w : World) : (Rtype.directlyAssignable 126 126).run Tryd.prog w = .ok true w := by kernel_rfl
theorem setC (ta b : Addr) (c : Int) (old : Value) (W : World) (hb : W.cell? b = some (.int .u32 c)) (ht : W.cell? ta = some old) (hf : W.frozen? ta = false) :
    (ReflectliteValue.set #[.agg #[hd 123, .pointer (some ta), .int .u64 394], .agg #[hd 123, .pointer (some b), .int .u64 138]]).run Tryd.prog W
      = .ok (.tuple #[]) (W.setCell ta (.int .u32 c)) := by
  rw [rls]
  simp only [Sem.run_bind, partsC1, partsC2, Result.andThen]
  simp [ReflectliteValue.flagAddr, loadVar, isAgg, underlying, Tryd.underlying123, hb, Result.andThen, directC, storeVar, Value.cells, storeCells, Addr.add]
  rw [run_store Tryd.prog W ta _ _ (by rfl)]
  simp [ht, hf]
theorem setS (ta : Nat) (b : Nat) (i c : Int) (o0 o1 o2 : Value) (W : World) (hb : W.heap[b]? = some (.cells #[.int .u32 i, .int .u32 c, .nilIface] 126 (0, 0))) (ht : W.heap[ta]? = some (.cells #[o0, o1, o2] 126 (0, 0))) :
    (ReflectliteValue.set #[.agg #[hd 126, .pointer (some ⟨ta, 0, none⟩), .int .u64 409], .agg #[hd 126, .pointer (some ⟨b, 0, none⟩), .int .u64 153]]).run Tryd.prog W
      = .ok (.tuple #[]) (((W.setCell ⟨ta, 0, none⟩ (.int .u32 i)).setCell ⟨ta, 1, none⟩ (.int .u32 c)).setCell ⟨ta, 2, none⟩ .nilIface) := by
  have hc := blk_cell hb
  have ht0 := blk_cell ht
  have hf0 := blk_free ht
  have k0 : W.cell? ⟨ta, 0, none⟩ = some o0 := ht0 0
  have k1 : W.cell? ⟨ta, 1, none⟩ = some o1 := ht0 1
  have k2 : W.cell? ⟨ta, 2, none⟩ = some o2 := ht0 2
  rw [rls]
  simp only [Sem.run_bind, partsS1, partsS2, Result.andThen]
  simp [ReflectliteValue.flagAddr, loadVar, isAgg, underlying, Tryd.underlying126, hc, Result.andThen, directS, storeVar, Value.cells, storeCells, Addr.add, loadCells, loadCellsFrom]
  go_simp
end Go.Proofs.YtfdlbjibninakaaDoor

/- impl.fault: every error that the framer's reading hands on, as a fault. -/
import Derived.Test.YtfdlbjibninakaaGreatDoorBase
import Derived.LaidEql
import Derived.Stop.Asserts
import Derived.RowKitTokens
set_option linter.unusedVariables false
set_option linter.unusedSimpArgs false
namespace Go.Proofs.YtfdlbjibninakaaGreatDoor
open Go.RowKit Go.Extern.Stop Go.Stop Go.Extern
abbrev hd (t:Nat):Value:=.pointer (some ⟨11,t,none⟩)
theorem valueOfPC (t:Addr) (w:World):(ReflectliteValue.unpack (.iface 123 (.pointer (some t)))).run Tryz.prog w
 = .ok (.agg #[hd 123,.pointer (some ⟨w.heap.size,0,none⟩),.int .u64 150]) (w.alloc (.cells #[.pointer (some t)] 123)):=by kernel_rfl
theorem valueOfPS (t:Addr) (w:World):(ReflectliteValue.unpack (.iface 124 (.pointer (some t)))).run Tryz.prog w
 = .ok (.agg #[hd 124,.pointer (some ⟨w.heap.size,0,none⟩),.int .u64 150]) (w.alloc (.cells #[.pointer (some t)] 124)):=by kernel_rfl
theorem typePC (a:Addr) (w:World):(ReflectliteValue.methodAny (ReflectliteValue.valueError "reflectlite.Value.Type" 0) (fun t _ _ _=>ReflectliteType.toType t) #[.agg #[hd 123,.pointer (some a),.int .u64 150]]).run Tryz.prog w
 = .ok (.iface 234 (.agg #[hd 123])) w:=by kernel_rfl
theorem typePS (a:Addr) (w:World):(ReflectliteValue.methodAny (ReflectliteValue.valueError "reflectlite.Value.Type" 0) (fun t _ _ _=>ReflectliteType.toType t) #[.agg #[hd 124,.pointer (some a),.int .u64 150]]).run Tryz.prog w
 = .ok (.iface 234 (.agg #[hd 124])) w:=by kernel_rfl
theorem methodKind (h:Value) (w:World):(Go.method 391 234 (.agg #[h]) "Kind").run Tryz.prog w = .ok (143,h) w:=by kernel_rfl
theorem methodComparable (h:Value) (w:World):(Go.method 391 234 (.agg #[h]) "Comparable").run Tryz.prog w = .ok (162,.agg #[h]) w:=by kernel_rfl
theorem methodElem (h:Value) (w:World):(Go.method 391 234 (.agg #[h]) "Elem").run Tryz.prog w = .ok (163,.agg #[h]) w:=by kernel_rfl
theorem methodImplements (h:Value) (w:World):(Go.method 391 234 (.agg #[h]) "Implements").run Tryz.prog w = .ok (164,.agg #[h]) w:=by kernel_rfl
theorem methodAssignableTo (h:Value) (w:World):(Go.method 391 234 (.agg #[h]) "AssignableTo").run Tryz.prog w = .ok (161,.agg #[h]) w:=by kernel_rfl
theorem kindPC (w:World):((ReflectliteType.abiMethod fun t=>(fun a:Nat=>Value.int IntKind.u8 (a:Int)) <$> Rtype.kind t) #[hd 123]).run Tryz.prog w = .ok (.int .u8 22) w:=by kernel_rfl
theorem kindPS (w:World):((ReflectliteType.abiMethod fun t=>(fun a:Nat=>Value.int IntKind.u8 (a:Int)) <$> Rtype.kind t) #[hd 124]).run Tryz.prog w = .ok (.int .u8 22) w:=by kernel_rfl
theorem kindC (w:World):((ReflectliteType.abiMethod fun t=>(fun a:Nat=>Value.int IntKind.u8 (a:Int)) <$> Rtype.kind t) #[hd 117]).run Tryz.prog w = .ok (.int .u8 10) w:=by kernel_rfl
theorem kindS (w:World):((ReflectliteType.abiMethod fun t=>(fun a:Nat=>Value.int IntKind.u8 (a:Int)) <$> Rtype.kind t) #[hd 120]).run Tryz.prog w = .ok (.int .u8 25) w:=by kernel_rfl
theorem elemPC (w:World):(ReflectliteType.method ReflectliteType.elem #[.agg #[hd 123]]).run Tryz.prog w = .ok (.iface 234 (.agg #[hd 117])) w:=by kernel_rfl
theorem elemPS (w:World):(ReflectliteType.method ReflectliteType.elem #[.agg #[hd 124]]).run Tryz.prog w = .ok (.iface 234 (.agg #[hd 120])) w:=by kernel_rfl
theorem implC (w:World):(ReflectliteType.relation "Implements" ReflectliteType.implements_ #[.agg #[hd 117],.iface 234 (.agg #[hd 77])]).run Tryz.prog w = .ok (.bool true) w:=by kernel_rfl
theorem implS (w:World):(ReflectliteType.relation "Implements" ReflectliteType.implements_ #[.agg #[hd 120],.iface 234 (.agg #[hd 77])]).run Tryz.prog w = .ok (.bool true) w:=by kernel_rfl
theorem typeOfC (v:Value) (w:World):(ReflectliteType.typeOf #[.iface 117 v]).run Tryz.prog w = .ok (.iface 234 (.agg #[hd 117])) w:=by kernel_rfl
theorem typeOfS (v:Value) (w:World):(ReflectliteType.typeOf #[.iface 120 v]).run Tryz.prog w = .ok (.iface 234 (.agg #[hd 120])) w:=by kernel_rfl
theorem typeOfE (v:Value) (w:World):(ReflectliteType.typeOf #[.iface 251 v]).run Tryz.prog w = .ok (.iface 234 (.agg #[hd 251])) w:=by kernel_rfl
theorem asgCC (w:World):(ReflectliteType.relation "AssignableTo" ReflectliteType.assignableTo #[.agg #[hd 117],.iface 234 (.agg #[hd 117])]).run Tryz.prog w = .ok (.bool true) w:=by kernel_rfl
theorem asgSC (w:World):(ReflectliteType.relation "AssignableTo" ReflectliteType.assignableTo #[.agg #[hd 120],.iface 234 (.agg #[hd 117])]).run Tryz.prog w = .ok (.bool false) w:=by kernel_rfl
theorem asgSS (w:World):(ReflectliteType.relation "AssignableTo" ReflectliteType.assignableTo #[.agg #[hd 120],.iface 234 (.agg #[hd 120])]).run Tryz.prog w = .ok (.bool true) w:=by kernel_rfl
theorem valueOfC (c:Int) (w:World):(ReflectliteValue.unpack (.iface 117 (.int .u32 c))).run Tryz.prog w
 = .ok (.agg #[hd 117,.pointer (some ⟨w.heap.size,0,none⟩),.int .u64 138]) (w.alloc (.cells #[.int .u32 c] 117)):=by kernel_rfl
theorem valueOfS (i c:Int) (w:World):(ReflectliteValue.unpack (.iface 120 (.agg #[.int .u32 i,.int .u32 c,.nilIface]))).run Tryz.prog w
 = .ok (.agg #[hd 120,.pointer (some ⟨w.heap.size,0,none⟩),.int .u64 153]) (w.alloc (.cells #[.int .u32 i,.int .u32 c,.nilIface] 120)):=by kernel_rfl
theorem rlm (z:Sem Value) (f:TypeId→Addr→Nat→Nat→Sem Value) (v:Value) :
 ReflectliteValue.method z f #[v]=(do match ←ReflectliteValue.parts v with|none=>z|some (t,a,fl)=>f t a fl (fl%32)):=rfl
theorem partsPC (a:Addr) (w:World):(ReflectliteValue.parts (.agg #[hd 123,.pointer (some a),.int .u64 150])).run Tryz.prog w = .ok (some (123,a,150)) w:=by kernel_rfl
theorem partsPS (a:Addr) (w:World):(ReflectliteValue.parts (.agg #[hd 124,.pointer (some a),.int .u64 150])).run Tryz.prog w = .ok (some (124,a,150)) w:=by kernel_rfl
theorem isNilPC (a p:Addr) (W:World) (ha:W.cell? a=some (.pointer (some p))) :
   (ReflectliteValue.method (ReflectliteValue.valueError "reflectlite.Value.IsNil" 0) ReflectliteValue.isNil #[.agg #[hd 123,.pointer (some a),.int .u64 150]]).run Tryz.prog W = .ok (.bool false) W:=by
 rw [rlm]
 simp only [Sem.run_bind,partsPC,Result.andThen]
 simp [ReflectliteValue.isNil,loadVar,isAgg,underlying,Tryz.underlying123,ha,Result.andThen]
theorem isNilPS (a p:Addr) (W:World) (ha:W.cell? a=some (.pointer (some p))) :
   (ReflectliteValue.method (ReflectliteValue.valueError "reflectlite.Value.IsNil" 0) ReflectliteValue.isNil #[.agg #[hd 124,.pointer (some a),.int .u64 150]]).run Tryz.prog W = .ok (.bool false) W:=by
 rw [rlm]
 simp only [Sem.run_bind,partsPS,Result.andThen]
 simp [ReflectliteValue.isNil,loadVar,isAgg,underlying,Tryz.underlying124,ha,Result.andThen]
theorem elemOfPC (w:World):(Rtype.elem? 123).run Tryz.prog w = .ok (some 117) w:=by kernel_rfl
theorem elemOfPS (w:World):(Rtype.elem? 124).run Tryz.prog w = .ok (some 120) w:=by kernel_rfl
theorem mkC (p:Addr) (w:World):(ReflectliteValue.mk 117 p ReflectliteValue.flagAddr).run Tryz.prog w = .ok (.agg #[hd 117,.pointer (some p),.int .u64 394]) w:=by kernel_rfl
theorem mkS (p:Addr) (w:World):(ReflectliteValue.mk 120 p ReflectliteValue.flagAddr).run Tryz.prog w = .ok (.agg #[hd 120,.pointer (some p),.int .u64 409]) w:=by kernel_rfl
theorem elemVPC (a p:Addr) (W:World) (ha:W.cell? a=some (.pointer (some p))) :
   (ReflectliteValue.method (ReflectliteValue.valueError "reflectlite.Value.Elem" 0) ReflectliteValue.elem #[.agg #[hd 123,.pointer (some a),.int .u64 150]]).run Tryz.prog W
     = .ok (.agg #[hd 117,.pointer (some p),.int .u64 394]) W:=by
 rw [rlm]
 simp only [Sem.run_bind,partsPC,Result.andThen]
 simp [ReflectliteValue.elem,loadVar,isAgg,underlying,Tryz.underlying123,ha,Result.andThen,elemOfPC,mkC]
theorem elemVPS (a p:Addr) (W:World) (ha:W.cell? a=some (.pointer (some p))) :
   (ReflectliteValue.method (ReflectliteValue.valueError "reflectlite.Value.Elem" 0) ReflectliteValue.elem #[.agg #[hd 124,.pointer (some a),.int .u64 150]]).run Tryz.prog W
     = .ok (.agg #[hd 120,.pointer (some p),.int .u64 409]) W:=by
 rw [rlm]
 simp only [Sem.run_bind,partsPS,Result.andThen]
 simp [ReflectliteValue.elem,loadVar,isAgg,underlying,Tryz.underlying124,ha,Result.andThen,elemOfPS,mkS]
theorem rls (v x:Value):ReflectliteValue.set #[v,x]=(do
 let (some (dst,a,fl),some (src,b,_)):=(←ReflectliteValue.parts v,←ReflectliteValue.parts x)
   | unsupported (.noEntry "extern/(internal/reflectlite.Value).Set.zeroValue")
 if fl / ReflectliteValue.flagAddr%2==0 then unsupported (.noEntry "extern/(internal/reflectlite.Value).Set.unaddressable")
 let val ←loadVar src b
 if ←Rtype.directlyAssignable dst src then storeVar dst a val
 else if ←Rtype.implements dst src then
   if (←Rtype.kind src)==20 then
     match val with
     | .nilIface=>unsupported (.noEntry "extern/reflectlite: a nil value of one interface type handed on as a value of another")
     | _=>storeVar dst a val
   else storeVar dst a (.iface src val)
 else panicString ("reflectlite.Set: value of type " ++ (←Rtype.spelt src) ++ " is not assignable to type " ++ (←Rtype.spelt dst))
 pure (.tuple #[])):=rfl
theorem partsC1 (a:Addr) (w:World):(ReflectliteValue.parts (.agg #[hd 117,.pointer (some a),.int .u64 138])).run Tryz.prog w = .ok (some (117,a,138)) w:=by kernel_rfl
theorem partsC2 (a:Addr) (w:World):(ReflectliteValue.parts (.agg #[hd 117,.pointer (some a),.int .u64 394])).run Tryz.prog w = .ok (some (117,a,394)) w:=by kernel_rfl
theorem partsS1 (a:Addr) (w:World):(ReflectliteValue.parts (.agg #[hd 120,.pointer (some a),.int .u64 153])).run Tryz.prog w = .ok (some (120,a,153)) w:=by kernel_rfl
theorem partsS2 (a:Addr) (w:World):(ReflectliteValue.parts (.agg #[hd 120,.pointer (some a),.int .u64 409])).run Tryz.prog w = .ok (some (120,a,409)) w:=by kernel_rfl
theorem directC (w:World):(Rtype.directlyAssignable 117 117).run Tryz.prog w = .ok true w:=by kernel_rfl
theorem directS (w:World):(Rtype.directlyAssignable 120 120).run Tryz.prog w = .ok true w:=by kernel_rfl
theorem setC (ta b:Addr) (c:Int) (old:Value) (W:World) (hb:W.cell? b=some (.int .u32 c)) (ht:W.cell? ta=some old) (hf:W.frozen? ta=false) :
   (ReflectliteValue.set #[.agg #[hd 117,.pointer (some ta),.int .u64 394],.agg #[hd 117,.pointer (some b),.int .u64 138]]).run Tryz.prog W
     = .ok (.tuple #[]) (W.setCell ta (.int .u32 c)):=by
 rw [rls]
 simp only [Sem.run_bind,partsC1,partsC2,Result.andThen]
 simp [ReflectliteValue.flagAddr,loadVar,isAgg,underlying,Tryz.underlying117,hb,Result.andThen,directC,storeVar,Value.cells,storeCells,Addr.add]
 rw [run_store Tryz.prog W ta _ _ (by rfl)]
 simp [ht,hf]
theorem setS (ta:Nat) (b:Nat) (i c:Int) (o0 o1 o2:Value) (W:World) (hb:W.heap[b]? = some (.cells #[.int .u32 i,.int .u32 c,.nilIface] 120 (0,0))) (ht:W.heap[ta]? = some (.cells #[o0,o1,o2] 120 (0,0))) :
   (ReflectliteValue.set #[.agg #[hd 120,.pointer (some ⟨ta,0,none⟩),.int .u64 409],.agg #[hd 120,.pointer (some ⟨b,0,none⟩),.int .u64 153]]).run Tryz.prog W
     = .ok (.tuple #[]) (((W.setCell ⟨ta,0,none⟩ (.int .u32 i)).setCell ⟨ta,1,none⟩ (.int .u32 c)).setCell ⟨ta,2,none⟩ .nilIface):=by
 have hc:=blk_cell hb
 have ht0:=blk_cell ht
 have hf0:=blk_free ht
 have k0:W.cell? ⟨ta,0,none⟩=some o0:=ht0 0
 have k1:W.cell? ⟨ta,1,none⟩=some o1:=ht0 1
 have k2:W.cell? ⟨ta,2,none⟩=some o2:=ht0 2
 rw [rls]
 simp only [Sem.run_bind,partsS1,partsS2,Result.andThen]
 simp [ReflectliteValue.flagAddr,loadVar,isAgg,underlying,Tryz.underlying120,hc,Result.andThen,directS,storeVar,Value.cells,storeCells,Addr.add,loadCells,loadCellsFrom]
 go_simp
end Go.Proofs.YtfdlbjibninakaaGreatDoor

namespace Go.Proofs.YtfdlbjibninakaaGreatDoor
set_option maxRecDepth 10000
set_option maxHeartbeats 4000000
open Go.RowKit Go.Extern.Stop Go.Stop Go.Extern
theorem ext88 (args:Array Value) (w:World):(callFunc 87 args).run Tryz.prog w=(((fun args=>ReflectliteValue.unpack (args.getD 0 (.tuple #[]))) args).run Tryz.prog w).andThen fun v w' => .ok (.value v) w':=
 @run_callFunc_extern Tryz.prog 87 _ (fun args=>ReflectliteValue.unpack (args.getD 0 (.tuple #[]))) Tryz.func87 (by kernel_rfl) (by kernel_rfl) (by kernel_rfl) (by kernel_rfl) args w
theorem ext89 (args:Array Value) (w:World):(callFunc 88 args).run Tryz.prog w=(((ReflectliteValue.methodAny (ReflectliteValue.valueError "reflectlite.Value.Type" 0) (fun t _ _ _=>ReflectliteType.toType t)) args).run Tryz.prog w).andThen fun v w' => .ok (.value v) w':=
 @run_callFunc_extern Tryz.prog 88 _ (ReflectliteValue.methodAny (ReflectliteValue.valueError "reflectlite.Value.Type" 0) (fun t _ _ _=>ReflectliteType.toType t)) Tryz.func88 (by kernel_rfl) (by kernel_rfl) (by kernel_rfl) (by kernel_rfl) args w
theorem ext90 (args:Array Value) (w:World):(callFunc 89 args).run Tryz.prog w=(((ReflectliteValue.method (ReflectliteValue.valueError "reflectlite.Value.IsNil" 0) ReflectliteValue.isNil) args).run Tryz.prog w).andThen fun v w' => .ok (.value v) w':=
 @run_callFunc_extern Tryz.prog 89 _ (ReflectliteValue.method (ReflectliteValue.valueError "reflectlite.Value.IsNil" 0) ReflectliteValue.isNil) Tryz.func89 (by kernel_rfl) (by kernel_rfl) (by kernel_rfl) (by kernel_rfl) args w
theorem ext144 (args:Array Value) (w:World):(callFunc 143 args).run Tryz.prog w=(((ReflectliteType.abiMethod fun t=>do pure (.int .u8 (←Rtype.kind t))) args).run Tryz.prog w).andThen fun v w' => .ok (.value v) w':=
 @run_callFunc_extern Tryz.prog 143 _ (ReflectliteType.abiMethod fun t=>do pure (.int .u8 (←Rtype.kind t))) Tryz.func143 (by kernel_rfl) (by kernel_rfl) (by kernel_rfl) (by kernel_rfl) args w
theorem ext163 (args:Array Value) (w:World):(callFunc 163 args).run Tryz.prog w=(((ReflectliteType.method ReflectliteType.elem) args).run Tryz.prog w).andThen fun v w' => .ok (.value v) w':=
 @run_callFunc_extern Tryz.prog 163 _ (ReflectliteType.method ReflectliteType.elem) Tryz.func163 (by kernel_rfl) (by kernel_rfl) (by kernel_rfl) (by kernel_rfl) args w
theorem ext164 (args:Array Value) (w:World):(callFunc 164 args).run Tryz.prog w=(((ReflectliteType.relation "Implements" ReflectliteType.implements_) args).run Tryz.prog w).andThen fun v w' => .ok (.value v) w':=
 @run_callFunc_extern Tryz.prog 164 _ (ReflectliteType.relation "Implements" ReflectliteType.implements_) Tryz.func164 (by kernel_rfl) (by kernel_rfl) (by kernel_rfl) (by kernel_rfl) args w
theorem ext86 (args:Array Value) (w:World):(callFunc 85 args).run Tryz.prog w=((ReflectliteType.typeOf args).run Tryz.prog w).andThen fun v w' => .ok (.value v) w':=
 @run_callFunc_extern Tryz.prog 85 _ ReflectliteType.typeOf Tryz.func85 (by kernel_rfl) (by kernel_rfl) (by kernel_rfl) (by kernel_rfl) args w
theorem ext161 (args:Array Value) (w:World):(callFunc 161 args).run Tryz.prog w=(((ReflectliteType.relation "AssignableTo" ReflectliteType.assignableTo) args).run Tryz.prog w).andThen fun v w' => .ok (.value v) w':=
 @run_callFunc_extern Tryz.prog 161 _ (ReflectliteType.relation "AssignableTo" ReflectliteType.assignableTo) Tryz.func161 (by kernel_rfl) (by kernel_rfl) (by kernel_rfl) (by kernel_rfl) args w
theorem ext110 (args:Array Value) (w:World):(callFunc 121 args).run Tryz.prog w=(((ReflectliteValue.method (ReflectliteValue.valueError "reflectlite.Value.Elem" 0) ReflectliteValue.elem) args).run Tryz.prog w).andThen fun v w' => .ok (.value v) w':=
 @run_callFunc_extern Tryz.prog 121 _ (ReflectliteValue.method (ReflectliteValue.valueError "reflectlite.Value.Elem" 0) ReflectliteValue.elem) Tryz.func121 (by kernel_rfl) (by kernel_rfl) (by kernel_rfl) (by kernel_rfl) args w
theorem ext111 (args:Array Value) (w:World):(callFunc 122 args).run Tryz.prog w=((ReflectliteValue.set args).run Tryz.prog w).andThen fun v w' => .ok (.value v) w':=
 @run_callFunc_extern Tryz.prog 122 _ ReflectliteValue.set Tryz.func122 (by kernel_rfl) (by kernel_rfl) (by kernel_rfl) (by kernel_rfl) args w
theorem ext162 (args:Array Value) (w:World):(callFunc 162 args).run Tryz.prog w=(((ReflectliteType.method fun t=>do Rtype.noPackHeld "Comparable" t;pure (.bool (←typeInfo t).comparable)) args).run Tryz.prog w).andThen fun v w' => .ok (.value v) w':=
 @run_callFunc_extern Tryz.prog 162 _ (ReflectliteType.method fun t=>do Rtype.noPackHeld "Comparable" t;pure (.bool (←typeInfo t).comparable)) Tryz.func162 (by kernel_rfl) (by kernel_rfl) (by kernel_rfl) (by kernel_rfl) args w
theorem noIsC (v:Value) (xT:TypeId) (w:World):(Instr.typeAssert (.iface 117 v) xT 236 true).run Tryz.prog w = .ok (.tuple #[.nilIface,.bool false]) w:=
 run_typeAssert_lacksB Tryz.underlying236 (by kernel_rfl) (by kernel_rfl) v xT w
theorem noUnC (v:Value) (xT:TypeId) (w:World):(Instr.typeAssert (.iface 117 v) xT 239 true).run Tryz.prog w = .ok (.tuple #[.nilIface,.bool false]) w:=
 run_typeAssert_lacksB Tryz.underlying239 (by kernel_rfl) (by kernel_rfl) v xT w
theorem noUnsC (v:Value) (xT:TypeId) (w:World):(Instr.typeAssert (.iface 117 v) xT 240 true).run Tryz.prog w = .ok (.tuple #[.nilIface,.bool false]) w:=
 run_typeAssert_lacksB Tryz.underlying240 (by kernel_rfl) (by kernel_rfl) v xT w
theorem noIsS (v:Value) (xT:TypeId) (w:World):(Instr.typeAssert (.iface 120 v) xT 236 true).run Tryz.prog w = .ok (.tuple #[.nilIface,.bool false]) w:=
 run_typeAssert_lacksB Tryz.underlying236 (by kernel_rfl) (by kernel_rfl) v xT w
theorem noAsS (v:Value) (xT:TypeId) (w:World):(Instr.typeAssert (.iface 120 v) xT 245 true).run Tryz.prog w = .ok (.tuple #[.nilIface,.bool false]) w:=
 run_typeAssert_lacksB Tryz.underlying245 (by kernel_rfl) (by kernel_rfl) v xT w
theorem noUnS (v:Value) (xT:TypeId) (w:World):(Instr.typeAssert (.iface 120 v) xT 239 true).run Tryz.prog w = .ok (.tuple #[.nilIface,.bool false]) w:=
 run_typeAssert_lacksB Tryz.underlying239 (by kernel_rfl) (by kernel_rfl) v xT w
theorem noUnsS (v:Value) (xT:TypeId) (w:World):(Instr.typeAssert (.iface 120 v) xT 240 true).run Tryz.prog w = .ok (.tuple #[.nilIface,.bool false]) w:=
 run_typeAssert_lacksB Tryz.underlying240 (by kernel_rfl) (by kernel_rfl) v xT w
theorem as_CC (c:Int) (t:Nat) (old:Value) (w:World) (hg:w.cell? ⟨3,0,none⟩=some (.iface 234 (.agg #[hd 77]))) (ht:w.heap[t]? = some (.cells #[old] 117 (0,0))) :
   Calls Tryz.prog 49 #[.iface 117 (.int .u32 c),.iface 123 (.pointer (some ⟨t,0,none⟩))] w fun e w' =>
     e = .returned (.bool true)∧Kept (· ≠ t) w w'∧w'.heap[t]? = some (.cells #[.int .u32 c] 117 (0,0)):=by
 have hlt:=lt_of_block ht
 have h88:=ext88
 have h89:=ext89
 have h90:=ext90
 have h144:=ext144
 have h163:=ext163
 have h164:=ext164
 have h86:=ext86
 have h161:=ext161
 have h110:=ext110
 have h111:=ext111
 have f1:=valueOfPC
 have f2:=typePC
 have f3:=methodKind
 have f4:=methodElem
 have f5:=methodImplements
 have f6:=methodAssignableTo
 have f7:=kindPC
 have f8:=kindC
 have f9:=elemPC
 have f10:=implC
 have f11:=typeOfC
 have f12:=asgCC
 have f13:=valueOfC
 obtain ⟨w1,hw1⟩:∃w1,w1=w.alloc (.cells #[.pointer (some ⟨t,0,none⟩)] 123):=⟨_,rfl⟩
 obtain ⟨w2,hw2⟩:∃w2,w2=w1.alloc (.cells #[hd 123,.pointer (some ⟨w.heap.size,0,none⟩),.int .u64 150] 207):=⟨_,rfl⟩
 have c2:w2.cell? ⟨w.heap.size,0,none⟩=some (.pointer (some ⟨t,0,none⟩)):=by rw [hw2,hw1];exact cell_alloc (World.cell?_alloc_new w _ _ 0) _
 have n8:=isNilPC ⟨w.heap.size,0,none⟩ ⟨t,0,none⟩ w2 c2
 have g2:w2.cell? ⟨3,0,none⟩=some (.iface 234 (.agg #[hd 77])):=by rw [hw2,hw1];exact cell_alloc (cell_alloc hg _) _
 have el:=elemVPC ⟨w.heap.size,0,none⟩ ⟨t,0,none⟩ (w2.alloc (.cells #[hd 123,.pointer (some ⟨w.heap.size,0,none⟩),.int .u64 150] 207)) (cell_alloc c2 _)
 have t2:w2.heap[t]? = some (.cells #[old] 117 (0,0)):=by rw [hw2,hw1];exact blk_alloc (blk_alloc ht)
 have t4:((w2.alloc (.cells #[hd 123,.pointer (some ⟨w.heap.size,0,none⟩),.int .u64 150] 207)).alloc (.cells #[.int .u32 c] 117)).heap[t]? = some (.cells #[old] 117 (0,0)):=blk_alloc (blk_alloc t2)
 have st:=setC ⟨t,0,none⟩ ⟨w.heap.size+1+1+1,0,none⟩ c old ((w2.alloc (.cells #[hd 123,.pointer (some ⟨w.heap.size,0,none⟩),.int .u64 150] 207)).alloc (.cells #[.int .u32 c] 117))
   (by rw [World.cell?_alloc_at _ _ _ _ (by rw [hw2,hw1];simp)];rfl) (blk_cell t4 0) (blk_free t4 0)
 have r4:=blk_set t4 0 (.int .u32 c)
 have k4:Kept (· ≠ t) w (((w2.alloc (.cells #[hd 123,.pointer (some ⟨w.heap.size,0,none⟩),.int .u64 150] 207)).alloc (.cells #[.int .u32 c] 117)).setCell ⟨t,0,none⟩ (.int .u32 c)):=by
   rw [hw2,hw1]
   exact (((((Kept.refl _ w).alloc _).alloc _).alloc _).alloc _).setCell (fun h=>absurd rfl h) _
 clear t4 t2 c2
 rw [hw2,hw1] at n8 g2 el st r4 k4
 clear hw1 hw2
 go_enter Tryz.func49,Tryz.ntmps49
 go_wp2
 refine wp_loop_rounds 1 ?_
 rw [rounds_succ]
 go_wp2
 go_ret
 exact ⟨rfl,k4,r4⟩
theorem as_SC (i c:Int) (t:Nat) (w:World) (hg:w.cell? ⟨3,0,none⟩=some (.iface 234 (.agg #[hd 77]))) :
   Calls Tryz.prog 49 #[.iface 120 (.agg #[.int .u32 i,.int .u32 c,.nilIface]),.iface 123 (.pointer (some ⟨t,0,none⟩))] w fun e w' =>
     e = .returned (.bool false)∧Below w.heap.size w w':=by
 have h88:=ext88
 have h89:=ext89
 have h90:=ext90
 have h144:=ext144
 have h163:=ext163
 have h164:=ext164
 have h86:=ext86
 have h161:=ext161
 have f1:=valueOfPC
 have f2:=typePC
 have f3:=methodKind
 have f4:=methodElem
 have f5:=methodImplements
 have f6:=methodAssignableTo
 have f7:=kindPC
 have f8:=kindC
 have f9:=elemPC
 have f10:=implC
 have f11:=typeOfS
 have f12:=asgSC
 have q1:=noAsS
 have q2:=noUnS
 have q3:=noUnsS
 obtain ⟨w1,hw1⟩:∃w1,w1=w.alloc (.cells #[.pointer (some ⟨t,0,none⟩)] 123):=⟨_,rfl⟩
 obtain ⟨w2,hw2⟩:∃w2,w2=w1.alloc (.cells #[hd 123,.pointer (some ⟨w.heap.size,0,none⟩),.int .u64 150] 207):=⟨_,rfl⟩
 have c2:w2.cell? ⟨w.heap.size,0,none⟩=some (.pointer (some ⟨t,0,none⟩)):=by rw [hw2,hw1];exact cell_alloc (World.cell?_alloc_new w _ _ 0) _
 have n8:=isNilPC ⟨w.heap.size,0,none⟩ ⟨t,0,none⟩ w2 c2
 have g2:w2.cell? ⟨3,0,none⟩=some (.iface 234 (.agg #[hd 77])):=by rw [hw2,hw1];exact cell_alloc (cell_alloc hg _) _
 clear c2
 rw [hw2,hw1] at n8 g2
 clear hw1 hw2
 go_enter Tryz.func49,Tryz.ntmps49
 go_wp2
 refine wp_loop_rounds 1 ?_
 rw [rounds_succ]
 go_wp2
 go_ret
 exact ⟨rfl,(((Below.refl w.heap.size w).alloc (by simp) _).alloc (by simp) _).alloc (by simp<;>omega) _⟩
theorem as_SS (i c:Int) (t:Nat) (o0 o1 o2:Value) (w:World) (hg:w.cell? ⟨3,0,none⟩=some (.iface 234 (.agg #[hd 77]))) (ht:w.heap[t]? = some (.cells #[o0,o1,o2] 120 (0,0))) :
   Calls Tryz.prog 49 #[.iface 120 (.agg #[.int .u32 i,.int .u32 c,.nilIface]),.iface 124 (.pointer (some ⟨t,0,none⟩))] w fun e w' =>
     e = .returned (.bool true)∧Kept (· ≠ t) w w'∧w'.heap[t]? = some (.cells #[.int .u32 i,.int .u32 c,.nilIface] 120 (0,0)):=by
 have hlt:=lt_of_block ht
 have h88:=ext88
 have h89:=ext89
 have h90:=ext90
 have h144:=ext144
 have h163:=ext163
 have h164:=ext164
 have h86:=ext86
 have h161:=ext161
 have h110:=ext110
 have h111:=ext111
 have f1:=valueOfPS
 have f2:=typePS
 have f3:=methodKind
 have f4:=methodElem
 have f5:=methodImplements
 have f6:=methodAssignableTo
 have f7:=kindPS
 have f8:=kindS
 have f9:=elemPS
 have f10:=implS
 have f11:=typeOfS
 have f12:=asgSS
 have f13:=valueOfS
 obtain ⟨w1,hw1⟩:∃w1,w1=w.alloc (.cells #[.pointer (some ⟨t,0,none⟩)] 124):=⟨_,rfl⟩
 obtain ⟨w2,hw2⟩:∃w2,w2=w1.alloc (.cells #[hd 124,.pointer (some ⟨w.heap.size,0,none⟩),.int .u64 150] 207):=⟨_,rfl⟩
 have c2:w2.cell? ⟨w.heap.size,0,none⟩=some (.pointer (some ⟨t,0,none⟩)):=by rw [hw2,hw1];exact cell_alloc (World.cell?_alloc_new w _ _ 0) _
 have n8:=isNilPS ⟨w.heap.size,0,none⟩ ⟨t,0,none⟩ w2 c2
 have g2:w2.cell? ⟨3,0,none⟩=some (.iface 234 (.agg #[hd 77])):=by rw [hw2,hw1];exact cell_alloc (cell_alloc hg _) _
 have el:=elemVPS ⟨w.heap.size,0,none⟩ ⟨t,0,none⟩ (w2.alloc (.cells #[hd 124,.pointer (some ⟨w.heap.size,0,none⟩),.int .u64 150] 207)) (cell_alloc c2 _)
 have t2:w2.heap[t]? = some (.cells #[o0,o1,o2] 120 (0,0)):=by rw [hw2,hw1];exact blk_alloc (blk_alloc ht)
 have t4:((w2.alloc (.cells #[hd 124,.pointer (some ⟨w.heap.size,0,none⟩),.int .u64 150] 207)).alloc (.cells #[.int .u32 i,.int .u32 c,.nilIface] 120)).heap[t]? = some (.cells #[o0,o1,o2] 120 (0,0)):=blk_alloc (blk_alloc t2)
 have st:=setS t (w.heap.size+1+1+1) i c o0 o1 o2 ((w2.alloc (.cells #[hd 124,.pointer (some ⟨w.heap.size,0,none⟩),.int .u64 150] 207)).alloc (.cells #[.int .u32 i,.int .u32 c,.nilIface] 120))
   (blk_at _ _ (by rw [hw2,hw1];simp)) t4
 have r4:=blk_set (blk_set (blk_set t4 0 (.int .u32 i)) 1 (.int .u32 c)) 2 .nilIface
 have k4:Kept (· ≠ t) w (((((w2.alloc (.cells #[hd 124,.pointer (some ⟨w.heap.size,0,none⟩),.int .u64 150] 207)).alloc (.cells #[.int .u32 i,.int .u32 c,.nilIface] 120)).setCell ⟨t,0,none⟩ (.int .u32 i)).setCell ⟨t,1,none⟩ (.int .u32 c)).setCell ⟨t,2,none⟩ .nilIface):=by
   rw [hw2,hw1]
   exact (((((((Kept.refl _ w).alloc _).alloc _).alloc _).alloc _).setCell (fun h=>absurd rfl h) _).setCell (fun h=>absurd rfl h) _).setCell (fun h=>absurd rfl h) _
 clear t4 t2 c2
 rw [hw2,hw1] at n8 g2 el st r4 k4
 clear hw1 hw2
 go_enter Tryz.func49,Tryz.ntmps49
 go_wp2
 refine wp_loop_rounds 1 ?_
 rw [rounds_succ]
 go_wp2
 go_ret
 exact ⟨rfl,k4,r4⟩
theorem compE (w:World):(ReflectliteType.method (fun t=>do Rtype.noPackHeld "Comparable" t;(fun a:TypeInfo=>Value.bool a.comparable) <$> typeInfo t) #[.agg #[hd 251]]).run Tryz.prog w = .ok (.bool true) w:=by kernel_rfl
theorem is_C (c:Int) (t:Addr) (w:World) :
   Calls Tryz.prog 48 #[.iface 117 (.int .u32 c),.iface 251 (.pointer (some t))] w fun e w'=>e = .returned (.bool false)∧w=w':=by
 have h86:=ext86
 have h162:=ext162
 have f1:=typeOfE
 have f2:=methodComparable
 have f3:=compE
 have q1:=noIsC
 have q2:=noUnC
 have q3:=noUnsC
 have e1:=fun w=>run_eql_iface_types (P:=Tryz.prog) (ti:=77) 117 251 (.int .u32 c) (.pointer (some t)) Tryz.underlying77 (by decide) w
 go_enter Tryz.func48,Tryz.ntmps48
 go_wp2
 refine wp_loop_rounds 1 ?_
 rw [rounds_succ]
 go_wp2
 go_ret
 exact ⟨rfl,rfl⟩
theorem is_S (i c:Int) (t:Addr) (w:World) :
   Calls Tryz.prog 48 #[.iface 120 (.agg #[.int .u32 i,.int .u32 c,.nilIface]),.iface 251 (.pointer (some t))] w fun e w'=>e = .returned (.bool false)∧w=w':=by
 have h86:=ext86
 have h162:=ext162
 have f1:=typeOfE
 have f2:=methodComparable
 have f3:=compE
 have q1:=noIsS
 have q2:=noUnS
 have q3:=noUnsS
 have e1:=fun w=>run_eql_iface_types (P:=Tryz.prog) (ti:=77) 120 251 (.agg #[.int .u32 i,.int .u32 c,.nilIface]) (.pointer (some t)) Tryz.underlying77 (by decide) w
 go_enter Tryz.func48,Tryz.ntmps48
 go_wp2
 refine wp_loop_rounds 1 ?_
 rw [rounds_succ]
 go_wp2
 go_ret
 exact ⟨rfl,rfl⟩
theorem eql_same (t:Addr) (w:World):(binOp .eql 77 (.iface 251 (.pointer (some t))) (.iface 251 (.pointer (some t)))).run Tryz.prog w = .ok (.bool true) w:=by
 have hc:(Tryz.prog.info? 251).map (·.comparable)=some true:=by kernel_rfl
 have hs:(Tryz.prog.info? 253).map (·.size)=some 1:=by kernel_rfl
 obtain ⟨i,hi,hc⟩:=Option.map_eq_some_iff.1 hc
 obtain ⟨j,hj,hs⟩:=Option.map_eq_some_iff.1 hs
 exact run_eql_iface_ptr_same w t Tryz.underlying77 Tryz.underlying251 hi hc hj
theorem eql_other {a b:Addr} {ca cb:Array Value} {ta tb:TypeId} (hne:a≠b) (w:World) (ha:w.heap[a.block]? = some (.cells ca ta (0,0))) (hb:w.heap[b.block]? = some (.cells cb tb (0,0))) :
   (binOp .eql 77 (.iface 251 (.pointer (some a))) (.iface 251 (.pointer (some b)))).run Tryz.prog w = .ok (.bool false) w:=by
 have hc:(Tryz.prog.info? 251).map (·.comparable)=some true:=by kernel_rfl
 have hs:(Tryz.prog.info? 253).map (·.size)=some 1:=by kernel_rfl
 obtain ⟨i,hi,hc⟩:=Option.map_eq_some_iff.1 hc
 obtain ⟨j,hj,hs⟩:=Option.map_eq_some_iff.1 hs
 exact run_eql_iface_ptr_other w Tryz.underlying77 Tryz.underlying251 hi hc hj (by omega) hne ha hb
theorem is_E (t:Addr) (w:World) :
   Calls Tryz.prog 48 #[.iface 251 (.pointer (some t)),.iface 251 (.pointer (some t))] w fun e w'=>e = .returned (.bool true)∧w=w':=by
 have h86:=ext86
 have h162:=ext162
 have f1:=typeOfE
 have f2:=methodComparable
 have f3:=compE
 have e1:=eql_same t
 go_enter Tryz.func48,Tryz.ntmps48
 go_wp2
 refine wp_loop_rounds 1 ?_
 rw [rounds_succ]
 go_wp2
 go_ret
 exact ⟨rfl,rfl⟩
end Go.Proofs.YtfdlbjibninakaaGreatDoor

namespace Go.Proofs.YtfdlbjibninakaaGreatDoor
set_option maxRecDepth 10000
set_option maxHeartbeats 4000000
open Go.RowKit
structure GV (B:Nat) (w:World) (aE aU aT:Addr):Prop where
 e:w.cell? ⟨0,0,none⟩=some (.iface 251 (.pointer (some aE)))
 u:w.cell? ⟨1,0,none⟩=some (.iface 251 (.pointer (some aU)))
 t:w.cell? ⟨2,0,none⟩=some (.iface 251 (.pointer (some aT)))
 et:w.cell? ⟨3,0,none⟩=some (.iface 234 (.agg #[hd 77]))
 be:∃cs ty,w.heap[aE.block]? = some (.cells cs ty (0,0))
 bu:∃cs ty,w.heap[aU.block]? = some (.cells cs ty (0,0))
 bt:∃cs ty,w.heap[aT.block]? = some (.cells cs ty (0,0))
 eu:aE≠aU
 et':aE≠aT
 ut:aU≠aT
 ge:11 ≤ B
 le:aE.block<B
 lu:aU.block<B
 lt:aT.block<B
theorem GV.kept {B:Nat} {w w':World} {aE aU aT:Addr} {K:Nat→Prop} (h:GV B w aE aU aT) (hk:Kept K w w') (hK:∀k,k<B→K k):GV B w' aE aU aT:=by
 have hB:=h.ge
 refine ⟨hk.cell (hK _ (by omega)) h.e,hk.cell (hK _ (by omega)) h.u,hk.cell (hK _ (by omega)) h.t,hk.cell (hK _ (by omega)) h.et,?_,?_,?_,h.eu,h.et',h.ut,h.ge,h.le,h.lu,h.lt⟩
 · obtain ⟨cs,ty,hb⟩:=h.be;exact ⟨cs,ty,hk.at (hK _ h.le) hb⟩
 · obtain ⟨cs,ty,hb⟩:=h.bu;exact ⟨cs,ty,hk.at (hK _ h.lu) hb⟩
 · obtain ⟨cs,ty,hb⟩:=h.bt;exact ⟨cs,ty,hk.at (hK _ h.lt) hb⟩
theorem GV.below {B:Nat} {w w':World} {aE aU aT:Addr} (h:GV B w aE aU aT) (hb:Below w.heap.size w w'):GV B w' aE aU aT:=h.kept (K:=fun _=>True) (Kept.all hb) (fun _ _=>trivial)
theorem GV.alloc {B:Nat} {w:World} {aE aU aT:Addr} (h:GV B w aE aU aT) (o:Obj):GV B (w.alloc o) aE aU aT:=h.kept (K:=fun _=>True) ((Kept.refl _ w).alloc o) (fun _ _=>trivial)
def faultV (f c s:Int):Value:=.agg #[.int .i64 f,.int .u32 c,.int .u32 s,.int .i64 0,.int .i64 0,.int .u32 0,.int .i64 0,.slice none 0 0,.int .u32 0,.int .u32 0,.int .u32 0,.int .u32 0,.bool false,.bool false,.int .u32 0,.int .i64 0,.slice none 0 0]
def errV (aE aU aT:Addr) (f c s:Int):Value:=
 if f=0 then .nilIface else if f=1 then .iface 251 (.pointer (some aE)) else if f=2 then .iface 251 (.pointer (some aU))
 else if f=3 then .iface 251 (.pointer (some aT)) else if f=4 then .iface 117 (.int .u32 c) else .iface 120 (.agg #[.int .u32 s,.int .u32 c,.nilIface])
theorem infoR:(Tryz.prog.info? 65).map (·.size)=some 17:=by kernel_rfl
theorem fault_nil (w:World):Calls Tryz.prog 29 #[.nilIface] w fun e w'=>e = .returned (faultV 0 0 0)∧Below w.heap.size w w':=by
 go_enter Tryz.func29,Tryz.ntmps29
 go_wp2_with (refine wpList_store_blk rfl _ _ _ rfl w.heap.size rfl _ _ rfl _ (blk_alloc (blk_alloc (blk_at _ _ rfl))) rfl infoR (by simp [Value.oneCell']) ?_;intro w1 hb hk)
 refine ret_blk rfl w.heap.size _ _ rfl hb Tryz.underlying65 infoR rfl ⟨rfl,?_⟩
 exact (((((Kept.refl (· < w.heap.size) w).alloc _).alloc _).alloc _).trans (hk.mono (fun k h _=>by omega))).below (Nat.le_refl _)
theorem fault_eof {B:Nat} {w:World} {aE aU aT:Addr} (h:GV B w aE aU aT):Calls Tryz.prog 29 #[.iface 251 (.pointer (some aE))] w fun e w'=>e = .returned (faultV 1 0 0)∧Below w.heap.size w w':=by
 have g:=((h.alloc (.cells #[.int .i64 0,.int .u32 0,.int .u32 0,.int .i64 0,.int .i64 0,.int .u32 0,.int .i64 0,.slice none 0 0,.int .u32 0,.int .u32 0,.int .u32 0,.int .u32 0,.bool false,.bool false,.int .u32 0,.int .i64 0,.slice none 0 0] 65)).alloc (.cells #[.int .u32 0] 117)).alloc (.cells #[.int .u32 0,.int .u32 0,.nilIface] 120)
 have g1:=g.e
 have g2:=g.u
 have g3:=g.t
 clear g
 have e1:=eql_same aE
 go_enter Tryz.func29,Tryz.ntmps29
 go_wp2_with (refine wpList_store_blk rfl _ _ _ rfl w.heap.size rfl _ _ rfl _ (blk_alloc (blk_alloc (blk_at _ _ rfl))) rfl infoR (by simp [Value.oneCell']) ?_;intro w1 hb hk)
 refine ret_blk rfl w.heap.size _ _ rfl hb Tryz.underlying65 infoR rfl ⟨rfl,?_⟩
 exact (((((Kept.refl (· < w.heap.size) w).alloc _).alloc _).alloc _).trans (hk.mono (fun k h _=>by omega))).below (Nat.le_refl _)
theorem fault_cut {B:Nat} {w:World} {aE aU aT:Addr} (h:GV B w aE aU aT):Calls Tryz.prog 29 #[.iface 251 (.pointer (some aU))] w fun e w'=>e = .returned (faultV 2 0 0)∧Below w.heap.size w w':=by
 have g:=((h.alloc (.cells #[.int .i64 0,.int .u32 0,.int .u32 0,.int .i64 0,.int .i64 0,.int .u32 0,.int .i64 0,.slice none 0 0,.int .u32 0,.int .u32 0,.int .u32 0,.int .u32 0,.bool false,.bool false,.int .u32 0,.int .i64 0,.slice none 0 0] 65)).alloc (.cells #[.int .u32 0] 117)).alloc (.cells #[.int .u32 0,.int .u32 0,.nilIface] 120)
 have g1:=g.e
 have g2:=g.u
 have g3:=g.t
 obtain ⟨c1,t1,b1⟩:=g.be
 obtain ⟨c2,t2,b2⟩:=g.bu
 have e1:=eql_same aU
 have e2:=eql_other (Ne.symm h.eu) _ b2 b1
 clear g b1 b2
 go_enter Tryz.func29,Tryz.ntmps29
 go_wp2_with (refine wpList_store_blk rfl _ _ _ rfl w.heap.size rfl _ _ rfl _ (blk_alloc (blk_alloc (blk_at _ _ rfl))) rfl infoR (by simp [Value.oneCell']) ?_;intro w1 hb hk)
 refine ret_blk rfl w.heap.size _ _ rfl hb Tryz.underlying65 infoR rfl ⟨rfl,?_⟩
 exact (((((Kept.refl (· < w.heap.size) w).alloc _).alloc _).alloc _).trans (hk.mono (fun k h _=>by omega))).below (Nat.le_refl _)
theorem fault_large {B:Nat} {w:World} {aE aU aT:Addr} (h:GV B w aE aU aT):Calls Tryz.prog 29 #[.iface 251 (.pointer (some aT))] w fun e w'=>e = .returned (faultV 3 0 0)∧Below w.heap.size w w':=by
 have g:=((h.alloc (.cells #[.int .i64 0,.int .u32 0,.int .u32 0,.int .i64 0,.int .i64 0,.int .u32 0,.int .i64 0,.slice none 0 0,.int .u32 0,.int .u32 0,.int .u32 0,.int .u32 0,.bool false,.bool false,.int .u32 0,.int .i64 0,.slice none 0 0] 65)).alloc (.cells #[.int .u32 0] 117)).alloc (.cells #[.int .u32 0,.int .u32 0,.nilIface] 120)
 have g1:=g.e
 have g2:=g.u
 have g3:=g.t
 obtain ⟨c1,t1,b1⟩:=g.be
 obtain ⟨c2,t2,b2⟩:=g.bu
 obtain ⟨c3,t3,b3⟩:=g.bt
 have e2:=eql_other (Ne.symm h.et') _ b3 b1
 have e3:=eql_other (Ne.symm h.ut) _ b3 b2
 clear g b1 b2 b3
 go_enter Tryz.func29,Tryz.ntmps29
 go_wp2_with (first|(go_at_call 48;refine (is_E aT _).mono ?_;rintro e w' ⟨rfl,rfl⟩)|(refine wpList_store_blk rfl _ _ _ rfl w.heap.size rfl _ _ rfl _ (blk_alloc (blk_alloc (blk_at _ _ rfl))) rfl infoR (by simp [Value.oneCell']) ?_;intro w1 hb hk))
 refine ret_blk rfl w.heap.size _ _ rfl hb Tryz.underlying65 infoR rfl ⟨rfl,?_⟩
 exact (((((Kept.refl (· < w.heap.size) w).alloc _).alloc _).alloc _).trans (hk.mono (fun k h _=>by omega))).below (Nat.le_refl _)
theorem fault_conn {B:Nat} {w:World} {aE aU aT:Addr} (h:GV B w aE aU aT) (c:Int):Calls Tryz.prog 29 #[.iface 117 (.int .u32 c)] w fun e w'=>e = .returned (faultV 4 c 0)∧Below w.heap.size w w':=by
 have g:=((h.alloc (.cells #[.int .i64 0,.int .u32 0,.int .u32 0,.int .i64 0,.int .i64 0,.int .u32 0,.int .i64 0,.slice none 0 0,.int .u32 0,.int .u32 0,.int .u32 0,.int .u32 0,.bool false,.bool false,.int .u32 0,.int .i64 0,.slice none 0 0] 65)).alloc (.cells #[.int .u32 0] 117)).alloc (.cells #[.int .u32 0,.int .u32 0,.nilIface] 120)
 have g1:=g.e
 have g2:=g.u
 have g3:=g.t
 have g4:=g.et
 clear g
 have e1:=fun u v w=>run_eql_iface_types (P:=Tryz.prog) (ti:=77) 117 251 u v Tryz.underlying77 (by decide) w
 go_enter Tryz.func29,Tryz.ntmps29
 go_wp2_with (first
   | (go_at_call 48;refine (is_C c aT _).mono ?_;rintro e w' ⟨rfl,rfl⟩)
   | (go_at_call 49;refine (as_CC c (w.heap.size+1) (.int .u32 0) _ g4 (blk_alloc (blk_at _ _ (by simp)))).mono ?_;rintro e w2 ⟨rfl,k2,b2⟩;have c2:w2.cell? ⟨w.heap.size+1,0,none⟩=some (.int .u32 c):=blk_cell b2 0)
   | (refine wpList_store_blk rfl _ _ _ rfl w.heap.size rfl _ _ rfl _ (k2.at (by omega) (blk_alloc (blk_alloc (blk_at _ _ rfl)))) rfl infoR (by simp [Value.oneCell']) ?_;intro w1 hb hk))
 refine ret_blk rfl w.heap.size _ _ rfl hb Tryz.underlying65 infoR rfl ⟨rfl,?_⟩
 exact ((((((Kept.refl (· < w.heap.size) w).alloc _).alloc _).alloc _).trans (k2.mono (fun k h _=>by omega))).trans (hk.mono (fun k h _=>by omega))).below (Nat.le_refl _)
theorem fault_stream {B:Nat} {w:World} {aE aU aT:Addr} (h:GV B w aE aU aT) (i c:Int):Calls Tryz.prog 29 #[.iface 120 (.agg #[.int .u32 i,.int .u32 c,.nilIface])] w fun e w'=>e = .returned (faultV 5 c i)∧Below w.heap.size w w':=by
 have g:=((h.alloc (.cells #[.int .i64 0,.int .u32 0,.int .u32 0,.int .i64 0,.int .i64 0,.int .u32 0,.int .i64 0,.slice none 0 0,.int .u32 0,.int .u32 0,.int .u32 0,.int .u32 0,.bool false,.bool false,.int .u32 0,.int .i64 0,.slice none 0 0] 65)).alloc (.cells #[.int .u32 0] 117)).alloc (.cells #[.int .u32 0,.int .u32 0,.nilIface] 120)
 have g1:=g.e
 have g2:=g.u
 have g3:=g.t
 have g4:=g.et
 have e1:=fun u v w=>run_eql_iface_types (P:=Tryz.prog) (ti:=77) 120 251 u v Tryz.underlying77 (by decide) w
 go_enter Tryz.func29,Tryz.ntmps29
 go_wp2_with (first
   | (go_at_call 48;refine (is_S i c aT _).mono ?_;rintro e w' ⟨rfl,rfl⟩)
   | (go_at_call 49;(with_reducible refine (as_SC i c (w.heap.size+1) _ g4).mono ?_);rintro e w2 ⟨rfl,k2⟩)
   | (go_at_call 49;refine (as_SS i c (w.heap.size+1+1) _ _ _ w2 (g.below k2).et (blk_below (blk_at _ _ (by simp)) k2)).mono ?_;rintro e w3 ⟨rfl,k3,b3⟩;have c2:w3.cell? ⟨w.heap.size+1+1,0,none⟩=some (.int .u32 i):=blk_cell b3 0;have c3:w3.cell? ⟨w.heap.size+1+1,1,none⟩=some (.int .u32 c):=blk_cell b3 1)
   | (refine wpList_store_blk rfl _ _ _ rfl w.heap.size rfl _ _ rfl _ (k3.at (by omega) (blk_below (blk_alloc (blk_alloc (blk_at _ _ rfl))) k2)) rfl infoR (by simp [Value.oneCell']) ?_;intro w1 hb hk))
 refine ret_blk rfl w.heap.size _ _ rfl hb Tryz.underlying65 infoR rfl ⟨rfl,?_⟩
 exact (((((((Kept.refl (· < w.heap.size) w).alloc _).alloc _).alloc _).trans (Kept.all k2)).trans (k3.mono (fun k h _=>by omega))).trans (hk.mono (fun k h _=>by omega))).below (Nat.le_refl _)
theorem fault_any {B:Nat} {w:World} {aE aU aT:Addr} (h:GV B w aE aU aT) (f c s:Int) (hf:f=0∧c=0∧s=0∨f=1∧c=0∧s=0∨f=2∧c=0∧s=0∨f=3∧c=0∧s=0∨f=4∧s=0∨f=5) :
   Calls Tryz.prog 29 #[errV aE aU aT f c s] w fun e w'=>e = .returned (faultV f c s)∧Below w.heap.size w w':=by
 rcases hf with ⟨rfl,rfl,rfl⟩|⟨rfl,rfl,rfl⟩|⟨rfl,rfl,rfl⟩|⟨rfl,rfl,rfl⟩|⟨rfl,rfl⟩|rfl
 · exact fault_nil w
 · exact fault_eof h
 · exact fault_cut h
 · exact fault_large h
 · exact fault_conn h c
 · exact fault_stream h s c
end Go.Proofs.YtfdlbjibninakaaGreatDoor

/- errors.As and errors.Is, walked, at the package's two error types. -/
import Derived.Test.YtfdlbjibninakaaDoorErr
set_option linter.unusedVariables false
set_option linter.unusedSimpArgs false
namespace Go.Proofs.YtfdlbjibninakaaDoor
open Go.RowKit Go.Extern.Stop Go.Stop Go.Extern

theorem errorType_alloc {w : World} {o : Obj} (h : w.cell? ⟨4, 0, none⟩ = some (.iface 233 (.agg #[hd 75]))) : (w.alloc o).cell? ⟨4, 0, none⟩ = some (.iface 233 (.agg #[hd 75])) := cell_alloc h _

theorem ext88 (args : Array Value) (w : World) : (callFunc 88 args).run Tryd.prog w = (((fun args => ReflectliteValue.unpack (args.getD 0 (.tuple #[]))) args).run Tryd.prog w).andThen fun v w' => .ok (.value v) w' :=
  @run_callFunc_extern Tryd.prog 88 _ (fun args => ReflectliteValue.unpack (args.getD 0 (.tuple #[]))) Tryd.func88 (by kernel_rfl) (by kernel_rfl) (by kernel_rfl) (by kernel_rfl) args w
theorem ext89 (args : Array Value) (w : World) : (callFunc 89 args).run Tryd.prog w = (((ReflectliteValue.methodAny (ReflectliteValue.valueError "reflectlite.Value.Type" 0) (fun t _ _ _ => ReflectliteType.toType t)) args).run Tryd.prog w).andThen fun v w' => .ok (.value v) w' :=
  @run_callFunc_extern Tryd.prog 89 _ (ReflectliteValue.methodAny (ReflectliteValue.valueError "reflectlite.Value.Type" 0) (fun t _ _ _ => ReflectliteType.toType t)) Tryd.func89 (by kernel_rfl) (by kernel_rfl) (by kernel_rfl) (by kernel_rfl) args w
theorem ext90 (args : Array Value) (w : World) : (callFunc 90 args).run Tryd.prog w = (((ReflectliteValue.method (ReflectliteValue.valueError "reflectlite.Value.IsNil" 0) ReflectliteValue.isNil) args).run Tryd.prog w).andThen fun v w' => .ok (.value v) w' :=
  @run_callFunc_extern Tryd.prog 90 _ (ReflectliteValue.method (ReflectliteValue.valueError "reflectlite.Value.IsNil" 0) ReflectliteValue.isNil) Tryd.func90 (by kernel_rfl) (by kernel_rfl) (by kernel_rfl) (by kernel_rfl) args w
theorem ext144 (args : Array Value) (w : World) : (callFunc 144 args).run Tryd.prog w = (((ReflectliteType.abiMethod fun t => do pure (.int .u8 (← Rtype.kind t))) args).run Tryd.prog w).andThen fun v w' => .ok (.value v) w' :=
  @run_callFunc_extern Tryd.prog 144 _ (ReflectliteType.abiMethod fun t => do pure (.int .u8 (← Rtype.kind t))) Tryd.func144 (by kernel_rfl) (by kernel_rfl) (by kernel_rfl) (by kernel_rfl) args w
theorem ext163 (args : Array Value) (w : World) : (callFunc 163 args).run Tryd.prog w = (((ReflectliteType.method ReflectliteType.elem) args).run Tryd.prog w).andThen fun v w' => .ok (.value v) w' :=
  @run_callFunc_extern Tryd.prog 163 _ (ReflectliteType.method ReflectliteType.elem) Tryd.func163 (by kernel_rfl) (by kernel_rfl) (by kernel_rfl) (by kernel_rfl) args w
theorem ext164 (args : Array Value) (w : World) : (callFunc 164 args).run Tryd.prog w = (((ReflectliteType.relation "Implements" ReflectliteType.implements_) args).run Tryd.prog w).andThen fun v w' => .ok (.value v) w' :=
  @run_callFunc_extern Tryd.prog 164 _ (ReflectliteType.relation "Implements" ReflectliteType.implements_) Tryd.func164 (by kernel_rfl) (by kernel_rfl) (by kernel_rfl) (by kernel_rfl) args w
theorem ext86 (args : Array Value) (w : World) : (callFunc 86 args).run Tryd.prog w = ((ReflectliteType.typeOf args).run Tryd.prog w).andThen fun v w' => .ok (.value v) w' :=
  @run_callFunc_extern Tryd.prog 86 _ ReflectliteType.typeOf Tryd.func86 (by kernel_rfl) (by kernel_rfl) (by kernel_rfl) (by kernel_rfl) args w
theorem ext161 (args : Array Value) (w : World) : (callFunc 161 args).run Tryd.prog w = (((ReflectliteType.relation "AssignableTo" ReflectliteType.assignableTo) args).run Tryd.prog w).andThen fun v w' => .ok (.value v) w' :=
  @run_callFunc_extern Tryd.prog 161 _ (ReflectliteType.relation "AssignableTo" ReflectliteType.assignableTo) Tryd.func161 (by kernel_rfl) (by kernel_rfl) (by kernel_rfl) (by kernel_rfl) args w
theorem ext110 (args : Array Value) (w : World) : (callFunc 110 args).run Tryd.prog w = (((ReflectliteValue.method (ReflectliteValue.valueError "reflectlite.Value.Elem" 0) ReflectliteValue.elem) args).run Tryd.prog w).andThen fun v w' => .ok (.value v) w' :=
  @run_callFunc_extern Tryd.prog 110 _ (ReflectliteValue.method (ReflectliteValue.valueError "reflectlite.Value.Elem" 0) ReflectliteValue.elem) Tryd.func110 (by kernel_rfl) (by kernel_rfl) (by kernel_rfl) (by kernel_rfl) args w
theorem ext111 (args : Array Value) (w : World) : (callFunc 111 args).run Tryd.prog w = ((ReflectliteValue.set args).run Tryd.prog w).andThen fun v w' => .ok (.value v) w' :=
  @run_callFunc_extern Tryd.prog 111 _ ReflectliteValue.set Tryd.func111 (by kernel_rfl) (by kernel_rfl) (by kernel_rfl) (by kernel_rfl) args w
theorem ext162 (args : Array Value) (w : World) : (callFunc 162 args).run Tryd.prog w = (((ReflectliteType.method fun t => do Rtype.noPackHeld "Comparable" t; pure (.bool (← typeInfo t).comparable)) args).run Tryd.prog w).andThen fun v w' => .ok (.value v) w' :=
  @run_callFunc_extern Tryd.prog 162 _ (ReflectliteType.method fun t => do Rtype.noPackHeld "Comparable" t; pure (.bool (← typeInfo t).comparable)) Tryd.func162 (by kernel_rfl) (by kernel_rfl) (by kernel_rfl) (by kernel_rfl) args w

theorem noIsC (v : Value) (xT : TypeId) (w : World) : (Instr.typeAssert (.iface 123 v) xT 235 true).run Tryd.prog w = .ok (.tuple #[.nilIface, .bool false]) w :=
  run_typeAssert_lacksB Tryd.underlying235 (by kernel_rfl) (by kernel_rfl) v xT w
theorem noAsC (v : Value) (xT : TypeId) (w : World) : (Instr.typeAssert (.iface 123 v) xT 244 true).run Tryd.prog w = .ok (.tuple #[.nilIface, .bool false]) w :=
  run_typeAssert_lacksB Tryd.underlying244 (by kernel_rfl) (by kernel_rfl) v xT w
theorem noUnC (v : Value) (xT : TypeId) (w : World) : (Instr.typeAssert (.iface 123 v) xT 238 true).run Tryd.prog w = .ok (.tuple #[.nilIface, .bool false]) w :=
  run_typeAssert_lacksB Tryd.underlying238 (by kernel_rfl) (by kernel_rfl) v xT w
theorem noUnsC (v : Value) (xT : TypeId) (w : World) : (Instr.typeAssert (.iface 123 v) xT 239 true).run Tryd.prog w = .ok (.tuple #[.nilIface, .bool false]) w :=
  run_typeAssert_lacksB Tryd.underlying239 (by kernel_rfl) (by kernel_rfl) v xT w
theorem noIsS (v : Value) (xT : TypeId) (w : World) : (Instr.typeAssert (.iface 126 v) xT 235 true).run Tryd.prog w = .ok (.tuple #[.nilIface, .bool false]) w :=
  run_typeAssert_lacksB Tryd.underlying235 (by kernel_rfl) (by kernel_rfl) v xT w
theorem noAsS (v : Value) (xT : TypeId) (w : World) : (Instr.typeAssert (.iface 126 v) xT 244 true).run Tryd.prog w = .ok (.tuple #[.nilIface, .bool false]) w :=
  run_typeAssert_lacksB Tryd.underlying244 (by kernel_rfl) (by kernel_rfl) v xT w
theorem noUnS (v : Value) (xT : TypeId) (w : World) : (Instr.typeAssert (.iface 126 v) xT 238 true).run Tryd.prog w = .ok (.tuple #[.nilIface, .bool false]) w :=
  run_typeAssert_lacksB Tryd.underlying238 (by kernel_rfl) (by kernel_rfl) v xT w
theorem noUnsS (v : Value) (xT : TypeId) (w : World) : (Instr.typeAssert (.iface 126 v) xT 239 true).run Tryd.prog w = .ok (.tuple #[.nilIface, .bool false]) w :=
  run_typeAssert_lacksB Tryd.underlying239 (by kernel_rfl) (by kernel_rfl) v xT w

set_option maxRecDepth 10000 in
set_option maxHeartbeats 4000000 in
theorem as_CC (c : Int) (t : Nat) (old : Value) (w : World) (hg : w.cell? ⟨4, 0, none⟩ = some (.iface 233 (.agg #[hd 75]))) (ht : w.heap[t]? = some (.cells #[old] 123 (0, 0))) :
    Calls Tryd.prog 55 #[.iface 123 (.int .u32 c), .iface 129 (.pointer (some ⟨t, 0, none⟩))] w fun e w' =>
      e = .returned (.bool true) ∧ Kept (· ≠ t) w w' ∧ w'.heap[t]? = some (.cells #[.int .u32 c] 123 (0, 0)) := by
  have hlt := lt_of_block ht
  have h88 := ext88
  have h89 := ext89
  have h90 := ext90
  have h144 := ext144
  have h163 := ext163
  have h164 := ext164
  have h86 := ext86
  have h161 := ext161
  have h110 := ext110
  have h111 := ext111
  have f1 := valueOfPC
  have f2 := typePC
  have f3 := methodKind
  have f4 := methodElem
  have f5 := methodImplements
  have f6 := methodAssignableTo
  have f7 := kindPC
  have f8 := kindC
  have f9 := elemPC
  have f10 := implC
  have f11 := typeOfC
  have f12 := asgCC
  have f13 := valueOfC
  obtain ⟨w1, hw1⟩ : ∃ w1, w1 = w.alloc (.cells #[.pointer (some ⟨t, 0, none⟩)] 129) := ⟨_, rfl⟩
  obtain ⟨w2, hw2⟩ : ∃ w2, w2 = w1.alloc (.cells #[hd 129, .pointer (some ⟨w.heap.size, 0, none⟩), .int .u64 150] 201) := ⟨_, rfl⟩
  have c2 : w2.cell? ⟨w.heap.size, 0, none⟩ = some (.pointer (some ⟨t, 0, none⟩)) := by rw [hw2, hw1]; exact cell_alloc (World.cell?_alloc_new w _ _ 0) _
  have n8 := isNilPC ⟨w.heap.size, 0, none⟩ ⟨t, 0, none⟩ w2 c2
  have g2 : w2.cell? ⟨4, 0, none⟩ = some (.iface 233 (.agg #[hd 75])) := by rw [hw2, hw1]; exact cell_alloc (cell_alloc hg _) _
  have el := elemVPC ⟨w.heap.size, 0, none⟩ ⟨t, 0, none⟩ (w2.alloc (.cells #[hd 129, .pointer (some ⟨w.heap.size, 0, none⟩), .int .u64 150] 201)) (cell_alloc c2 _)
  have t2 : w2.heap[t]? = some (.cells #[old] 123 (0, 0)) := by rw [hw2, hw1]; exact blk_alloc (blk_alloc ht)
  have t4 : ((w2.alloc (.cells #[hd 129, .pointer (some ⟨w.heap.size, 0, none⟩), .int .u64 150] 201)).alloc (.cells #[.int .u32 c] 123)).heap[t]? = some (.cells #[old] 123 (0, 0)) := blk_alloc (blk_alloc t2)
  have st := setC ⟨t, 0, none⟩ ⟨w.heap.size + 1 + 1 + 1, 0, none⟩ c old ((w2.alloc (.cells #[hd 129, .pointer (some ⟨w.heap.size, 0, none⟩), .int .u64 150] 201)).alloc (.cells #[.int .u32 c] 123))
    (by rw [World.cell?_alloc_at _ _ _ _ (by rw [hw2, hw1]; simp)]; rfl) (blk_cell t4 0) (blk_free t4 0)
  have r4 := blk_set t4 0 (.int .u32 c)
  have k4 : Kept (· ≠ t) w (((w2.alloc (.cells #[hd 129, .pointer (some ⟨w.heap.size, 0, none⟩), .int .u64 150] 201)).alloc (.cells #[.int .u32 c] 123)).setCell ⟨t, 0, none⟩ (.int .u32 c)) := by
    rw [hw2, hw1]
    exact (((((Kept.refl _ w).alloc _).alloc _).alloc _).alloc _).setCell (fun h => absurd rfl h) _
  clear t4 t2 c2
  rw [hw2, hw1] at n8 g2 el st r4 k4
  clear hw1 hw2
  go_enter Tryd.func55, Tryd.ntmps55
  go_wp2
  refine wp_loop_rounds 1 ?_
  rw [rounds_succ]
  go_wp2
  go_ret
  exact ⟨rfl, k4, r4⟩

set_option maxRecDepth 10000 in
set_option maxHeartbeats 4000000 in
theorem as_SC (i c : Int) (t : Nat) (w : World) (hg : w.cell? ⟨4, 0, none⟩ = some (.iface 233 (.agg #[hd 75]))) :
    Calls Tryd.prog 55 #[.iface 126 (.agg #[.int .u32 i, .int .u32 c, .nilIface]), .iface 129 (.pointer (some ⟨t, 0, none⟩))] w fun e w' =>
      e = .returned (.bool false) ∧ Below w.heap.size w w' := by
  have h88 := ext88
  have h89 := ext89
  have h90 := ext90
  have h144 := ext144
  have h163 := ext163
  have h164 := ext164
  have h86 := ext86
  have h161 := ext161
  have f1 := valueOfPC
  have f2 := typePC
  have f3 := methodKind
  have f4 := methodElem
  have f5 := methodImplements
  have f6 := methodAssignableTo
  have f7 := kindPC
  have f8 := kindC
  have f9 := elemPC
  have f10 := implC
  have f11 := typeOfS
  have f12 := asgSC
  have q1 := noAsS
  have q2 := noUnS
  have q3 := noUnsS
  obtain ⟨w1, hw1⟩ : ∃ w1, w1 = w.alloc (.cells #[.pointer (some ⟨t, 0, none⟩)] 129) := ⟨_, rfl⟩
  obtain ⟨w2, hw2⟩ : ∃ w2, w2 = w1.alloc (.cells #[hd 129, .pointer (some ⟨w.heap.size, 0, none⟩), .int .u64 150] 201) := ⟨_, rfl⟩
  have c2 : w2.cell? ⟨w.heap.size, 0, none⟩ = some (.pointer (some ⟨t, 0, none⟩)) := by rw [hw2, hw1]; exact cell_alloc (World.cell?_alloc_new w _ _ 0) _
  have n8 := isNilPC ⟨w.heap.size, 0, none⟩ ⟨t, 0, none⟩ w2 c2
  have g2 : w2.cell? ⟨4, 0, none⟩ = some (.iface 233 (.agg #[hd 75])) := by rw [hw2, hw1]; exact cell_alloc (cell_alloc hg _) _
  clear c2
  rw [hw2, hw1] at n8 g2
  clear hw1 hw2
  go_enter Tryd.func55, Tryd.ntmps55
  go_wp2
  refine wp_loop_rounds 1 ?_
  rw [rounds_succ]
  go_wp2
  go_ret
  exact ⟨rfl, (((Below.refl w.heap.size w).alloc (by simp) _).alloc (by simp) _).alloc (by simp <;> omega) _⟩

set_option maxRecDepth 10000 in
set_option maxHeartbeats 4000000 in
theorem as_SS (i c : Int) (t : Nat) (o0 o1 o2 : Value) (w : World) (hg : w.cell? ⟨4, 0, none⟩ = some (.iface 233 (.agg #[hd 75]))) (ht : w.heap[t]? = some (.cells #[o0, o1, o2] 126 (0, 0))) :
    Calls Tryd.prog 55 #[.iface 126 (.agg #[.int .u32 i, .int .u32 c, .nilIface]), .iface 130 (.pointer (some ⟨t, 0, none⟩))] w fun e w' =>
      e = .returned (.bool true) ∧ Kept (· ≠ t) w w' ∧ w'.heap[t]? = some (.cells #[.int .u32 i, .int .u32 c, .nilIface] 126 (0, 0)) := by
  have hlt := lt_of_block ht
  have h88 := ext88
  have h89 := ext89
  have h90 := ext90
  have h144 := ext144
  have h163 := ext163
  have h164 := ext164
  have h86 := ext86
  have h161 := ext161
  have h110 := ext110
  have h111 := ext111
  have f1 := valueOfPS
  have f2 := typePS
  have f3 := methodKind
  have f4 := methodElem
  have f5 := methodImplements
  have f6 := methodAssignableTo
  have f7 := kindPS
  have f8 := kindS
  have f9 := elemPS
  have f10 := implS
  have f11 := typeOfS
  have f12 := asgSS
  have f13 := valueOfS
  obtain ⟨w1, hw1⟩ : ∃ w1, w1 = w.alloc (.cells #[.pointer (some ⟨t, 0, none⟩)] 130) := ⟨_, rfl⟩
  obtain ⟨w2, hw2⟩ : ∃ w2, w2 = w1.alloc (.cells #[hd 130, .pointer (some ⟨w.heap.size, 0, none⟩), .int .u64 150] 201) := ⟨_, rfl⟩
  have c2 : w2.cell? ⟨w.heap.size, 0, none⟩ = some (.pointer (some ⟨t, 0, none⟩)) := by rw [hw2, hw1]; exact cell_alloc (World.cell?_alloc_new w _ _ 0) _
  have n8 := isNilPS ⟨w.heap.size, 0, none⟩ ⟨t, 0, none⟩ w2 c2
  have g2 : w2.cell? ⟨4, 0, none⟩ = some (.iface 233 (.agg #[hd 75])) := by rw [hw2, hw1]; exact cell_alloc (cell_alloc hg _) _
  have el := elemVPS ⟨w.heap.size, 0, none⟩ ⟨t, 0, none⟩ (w2.alloc (.cells #[hd 130, .pointer (some ⟨w.heap.size, 0, none⟩), .int .u64 150] 201)) (cell_alloc c2 _)
  have t2 : w2.heap[t]? = some (.cells #[o0, o1, o2] 126 (0, 0)) := by rw [hw2, hw1]; exact blk_alloc (blk_alloc ht)
  have t4 : ((w2.alloc (.cells #[hd 130, .pointer (some ⟨w.heap.size, 0, none⟩), .int .u64 150] 201)).alloc (.cells #[.int .u32 i, .int .u32 c, .nilIface] 126)).heap[t]? = some (.cells #[o0, o1, o2] 126 (0, 0)) := blk_alloc (blk_alloc t2)
  have st := setS t (w.heap.size + 1 + 1 + 1) i c o0 o1 o2 ((w2.alloc (.cells #[hd 130, .pointer (some ⟨w.heap.size, 0, none⟩), .int .u64 150] 201)).alloc (.cells #[.int .u32 i, .int .u32 c, .nilIface] 126))
    (blk_at _ _ (by rw [hw2, hw1]; simp)) t4
  have r4 := blk_set (blk_set (blk_set t4 0 (.int .u32 i)) 1 (.int .u32 c)) 2 .nilIface
  have k4 : Kept (· ≠ t) w (((((w2.alloc (.cells #[hd 130, .pointer (some ⟨w.heap.size, 0, none⟩), .int .u64 150] 201)).alloc (.cells #[.int .u32 i, .int .u32 c, .nilIface] 126)).setCell ⟨t, 0, none⟩ (.int .u32 i)).setCell ⟨t, 1, none⟩ (.int .u32 c)).setCell ⟨t, 2, none⟩ .nilIface) := by
    rw [hw2, hw1]
    exact (((((((Kept.refl _ w).alloc _).alloc _).alloc _).alloc _).setCell (fun h => absurd rfl h) _).setCell (fun h => absurd rfl h) _).setCell (fun h => absurd rfl h) _
  clear t4 t2 c2
  rw [hw2, hw1] at n8 g2 el st r4 k4
  clear hw1 hw2
  go_enter Tryd.func55, Tryd.ntmps55
  go_wp2
  refine wp_loop_rounds 1 ?_
  rw [rounds_succ]
  go_wp2
  go_ret
  exact ⟨rfl, k4, r4⟩

/-! ## errors.Is, the target a sentinel -/
theorem compE (w : World) : (ReflectliteType.method (fun t => do Rtype.noPackHeld "Comparable" t; (fun a : TypeInfo => Value.bool a.comparable) <$> typeInfo t) #[.agg #[hd 247]]).run Tryd.prog w = .ok (.bool true) w := by kernel_rfl

set_option maxRecDepth 10000 in
set_option maxHeartbeats 4000000 in
theorem is_C (c : Int) (t : Addr) (w : World) :
    Calls Tryd.prog 54 #[.iface 123 (.int .u32 c), .iface 247 (.pointer (some t))] w fun e w' => e = .returned (.bool false) ∧ w = w' := by
  have h86 := ext86
  have h162 := ext162
  have f1 := typeOfE
  have f2 := methodComparable
  have f3 := compE
  have q1 := noIsC
  have q2 := noUnC
  have q3 := noUnsC
  have e1 := fun w => run_eql_iface_types (P := Tryd.prog) (ti := 75) 123 247 (.int .u32 c) (.pointer (some t)) Tryd.underlying75 (by decide) w
  go_enter Tryd.func54, Tryd.ntmps54
  go_wp2
  refine wp_loop_rounds 1 ?_
  rw [rounds_succ]
  go_wp2
  go_ret
  exact ⟨rfl, rfl⟩
set_option maxRecDepth 10000 in
set_option maxHeartbeats 4000000 in
theorem is_S (i c : Int) (t : Addr) (w : World) :
    Calls Tryd.prog 54 #[.iface 126 (.agg #[.int .u32 i, .int .u32 c, .nilIface]), .iface 247 (.pointer (some t))] w fun e w' => e = .returned (.bool false) ∧ w = w' := by
  have h86 := ext86
  have h162 := ext162
  have f1 := typeOfE
  have f2 := methodComparable
  have f3 := compE
  have q1 := noIsS
  have q2 := noUnS
  have q3 := noUnsS
  have e1 := fun w => run_eql_iface_types (P := Tryd.prog) (ti := 75) 126 247 (.agg #[.int .u32 i, .int .u32 c, .nilIface]) (.pointer (some t)) Tryd.underlying75 (by decide) w
  go_enter Tryd.func54, Tryd.ntmps54
  go_wp2
  refine wp_loop_rounds 1 ?_
  rw [rounds_succ]
  go_wp2
  go_ret
  exact ⟨rfl, rfl⟩
theorem eql_same (t : Addr) (w : World) : (binOp .eql 75 (.iface 247 (.pointer (some t))) (.iface 247 (.pointer (some t)))).run Tryd.prog w = .ok (.bool true) w := by
  have hc : (Tryd.prog.info? 247).map (·.comparable) = some true := by kernel_rfl
  have hs : (Tryd.prog.info? 249).map (·.size) = some 1 := by kernel_rfl
  obtain ⟨i, hi, hc⟩ := Option.map_eq_some_iff.1 hc
  obtain ⟨j, hj, hs⟩ := Option.map_eq_some_iff.1 hs
  exact run_eql_iface_ptr_same w t Tryd.underlying75 Tryd.underlying247 hi hc hj
theorem eql_other {a b : Addr} {ca cb : Array Value} {ta tb : TypeId} (hne : a ≠ b) (w : World) (ha : w.heap[a.block]? = some (.cells ca ta (0, 0))) (hb : w.heap[b.block]? = some (.cells cb tb (0, 0))) :
    (binOp .eql 75 (.iface 247 (.pointer (some a))) (.iface 247 (.pointer (some b)))).run Tryd.prog w = .ok (.bool false) w := by
  have hc : (Tryd.prog.info? 247).map (·.comparable) = some true := by kernel_rfl
  have hs : (Tryd.prog.info? 249).map (·.size) = some 1 := by kernel_rfl
  obtain ⟨i, hi, hc⟩ := Option.map_eq_some_iff.1 hc
  obtain ⟨j, hj, hs⟩ := Option.map_eq_some_iff.1 hs
  exact run_eql_iface_ptr_other w Tryd.underlying75 Tryd.underlying247 hi hc hj (by omega) hne ha hb
set_option maxRecDepth 10000 in
set_option maxHeartbeats 4000000 in
theorem is_E (t : Addr) (w : World) :
    Calls Tryd.prog 54 #[.iface 247 (.pointer (some t)), .iface 247 (.pointer (some t))] w fun e w' => e = .returned (.bool true) ∧ w = w' := by
  have h86 := ext86
  have h162 := ext162
  have f1 := typeOfE
  have f2 := methodComparable
  have f3 := compE
  have e1 := eql_same t
  go_enter Tryd.func54, Tryd.ntmps54
  go_wp2
  refine wp_loop_rounds 1 ?_
  rw [rounds_succ]
  go_wp2
  go_ret
  exact ⟨rfl, rfl⟩
end Go.Proofs.YtfdlbjibninakaaDoor

/- impl.fault: every error that the framer's reading hands on, as a fault. -/
import Derived.Test.YtfdlbjibninakaaGreatDoorErr2
import Derived.Test.YtfdlbjibninakaaGreatDoorBase2
set_option linter.unusedVariables false
set_option linter.unusedSimpArgs false
namespace Go.Proofs.YtfdlbjibninakaaGreatDoor
open Go.RowKit

/-- The package-level variables that reading looks into, as the program's text lays them: blocks below B. -/
structure GV (B : Nat) (w : World) (aE aU aT : Addr) : Prop where
  e : w.cell? ⟨0, 0, none⟩ = some (.iface 251 (.pointer (some aE)))
  u : w.cell? ⟨1, 0, none⟩ = some (.iface 251 (.pointer (some aU)))
  t : w.cell? ⟨2, 0, none⟩ = some (.iface 251 (.pointer (some aT)))
  et : w.cell? ⟨3, 0, none⟩ = some (.iface 234 (.agg #[hd 77]))
  be : ∃ cs ty, w.heap[aE.block]? = some (.cells cs ty (0, 0))
  bu : ∃ cs ty, w.heap[aU.block]? = some (.cells cs ty (0, 0))
  bt : ∃ cs ty, w.heap[aT.block]? = some (.cells cs ty (0, 0))
  eu : aE ≠ aU
  et' : aE ≠ aT
  ut : aU ≠ aT
  ge : 11 ≤ B
  le : aE.block < B
  lu : aU.block < B
  lt : aT.block < B
theorem GV.kept {B : Nat} {w w' : World} {aE aU aT : Addr} {K : Nat → Prop} (h : GV B w aE aU aT) (hk : Kept K w w') (hK : ∀ k, k < B → K k) : GV B w' aE aU aT := by
  have hB := h.ge
  refine ⟨hk.cell (hK _ (by omega)) h.e, hk.cell (hK _ (by omega)) h.u, hk.cell (hK _ (by omega)) h.t, hk.cell (hK _ (by omega)) h.et, ?_, ?_, ?_, h.eu, h.et', h.ut, h.ge, h.le, h.lu, h.lt⟩
  · obtain ⟨cs, ty, hb⟩ := h.be; exact ⟨cs, ty, hk.at (hK _ h.le) hb⟩
  · obtain ⟨cs, ty, hb⟩ := h.bu; exact ⟨cs, ty, hk.at (hK _ h.lu) hb⟩
  · obtain ⟨cs, ty, hb⟩ := h.bt; exact ⟨cs, ty, hk.at (hK _ h.lt) hb⟩
theorem GV.below {B : Nat} {w w' : World} {aE aU aT : Addr} (h : GV B w aE aU aT) (hb : Below w.heap.size w w') : GV B w' aE aU aT := h.kept (K := fun _ => True) (Kept.all hb) (fun _ _ => trivial)
theorem GV.alloc {B : Nat} {w : World} {aE aU aT : Addr} (h : GV B w aE aU aT) (o : Obj) : GV B (w.alloc o) aE aU aT := h.kept (K := fun _ => True) ((Kept.refl _ w).alloc o) (fun _ _ => trivial)

/-- A Result that bears a fault. -/
def faultV (f c s : Int) : Value := .agg #[.int .i64 f, .int .u32 c, .int .u32 s, .int .i64 0, .int .i64 0, .int .u32 0, .int .i64 0, .slice none 0 0, .int .u32 0, .int .u32 0, .int .u32 0, .int .u32 0, .bool false, .bool false, .int .u32 0, .int .i64 0, .slice none 0 0]
/-- The error that is told as the fault f, with its code and its stream. -/
def errV (aE aU aT : Addr) (f c s : Int) : Value :=
  if f = 0 then .nilIface else if f = 1 then .iface 251 (.pointer (some aE)) else if f = 2 then .iface 251 (.pointer (some aU))
  else if f = 3 then .iface 251 (.pointer (some aT)) else if f = 4 then .iface 117 (.int .u32 c) else .iface 120 (.agg #[.int .u32 s, .int .u32 c, .nilIface])

theorem infoR : (Tryz.prog.info? 65).map (·.size) = some 17 := by kernel_rfl
/-- What fault lays before its switch: the result, c and s. -/
def fw (w : World) : World := ((w.alloc (.cells #[.int .i64 0, .int .u32 0, .int .u32 0, .int .i64 0, .int .i64 0, .int .u32 0, .int .i64 0, .slice none 0 0, .int .u32 0, .int .u32 0, .int .u32 0, .int .u32 0, .bool false, .bool false, .int .u32 0, .int .i64 0, .slice none 0 0] 65)).alloc
  (.cells #[.int .u32 0] 117)).alloc (.cells #[.int .u32 0, .int .u32 0, .nilIface] 120)

set_option maxRecDepth 10000 in
set_option maxHeartbeats 4000000 in
theorem fault_nil (w : World) : Calls Tryz.prog 29 #[.nilIface] w fun e w' => e = .returned (faultV 0 0 0) ∧ Below w.heap.size w w' := by
  go_enter Tryz.func29, Tryz.ntmps29
  go_wp2_with (refine wpList_store_blk rfl _ _ _ rfl w.heap.size rfl _ _ rfl _ (blk_alloc (blk_alloc (blk_at _ _ rfl))) rfl infoR (by simp [Value.oneCell']) ?_; intro w1 hb hk)
  refine ret_blk rfl w.heap.size _ _ rfl hb Tryz.underlying65 infoR rfl ⟨rfl, ?_⟩
  exact (((((Kept.refl (· < w.heap.size) w).alloc _).alloc _).alloc _).trans (hk.mono (fun k h _ => by omega))).below (Nat.le_refl _)
set_option maxRecDepth 10000 in
set_option maxHeartbeats 4000000 in
theorem fault_eof {B : Nat} {w : World} {aE aU aT : Addr} (h : GV B w aE aU aT) : Calls Tryz.prog 29 #[.iface 251 (.pointer (some aE))] w fun e w' => e = .returned (faultV 1 0 0) ∧ Below w.heap.size w w' := by
  have g := ((h.alloc (.cells #[.int .i64 0, .int .u32 0, .int .u32 0, .int .i64 0, .int .i64 0, .int .u32 0, .int .i64 0, .slice none 0 0, .int .u32 0, .int .u32 0, .int .u32 0, .int .u32 0, .bool false, .bool false, .int .u32 0, .int .i64 0, .slice none 0 0] 65)).alloc (.cells #[.int .u32 0] 117)).alloc (.cells #[.int .u32 0, .int .u32 0, .nilIface] 120)
  have g1 := g.e
  have g2 := g.u
  have g3 := g.t
  clear g
  have e1 := eql_same aE
  go_enter Tryz.func29, Tryz.ntmps29
  go_wp2_with (refine wpList_store_blk rfl _ _ _ rfl w.heap.size rfl _ _ rfl _ (blk_alloc (blk_alloc (blk_at _ _ rfl))) rfl infoR (by simp [Value.oneCell']) ?_; intro w1 hb hk)
  refine ret_blk rfl w.heap.size _ _ rfl hb Tryz.underlying65 infoR rfl ⟨rfl, ?_⟩
  exact (((((Kept.refl (· < w.heap.size) w).alloc _).alloc _).alloc _).trans (hk.mono (fun k h _ => by omega))).below (Nat.le_refl _)
set_option maxRecDepth 10000 in
set_option maxHeartbeats 4000000 in
theorem fault_cut {B : Nat} {w : World} {aE aU aT : Addr} (h : GV B w aE aU aT) : Calls Tryz.prog 29 #[.iface 251 (.pointer (some aU))] w fun e w' => e = .returned (faultV 2 0 0) ∧ Below w.heap.size w w' := by
  have g := ((h.alloc (.cells #[.int .i64 0, .int .u32 0, .int .u32 0, .int .i64 0, .int .i64 0, .int .u32 0, .int .i64 0, .slice none 0 0, .int .u32 0, .int .u32 0, .int .u32 0, .int .u32 0, .bool false, .bool false, .int .u32 0, .int .i64 0, .slice none 0 0] 65)).alloc (.cells #[.int .u32 0] 117)).alloc (.cells #[.int .u32 0, .int .u32 0, .nilIface] 120)
  have g1 := g.e
  have g2 := g.u
  have g3 := g.t
  obtain ⟨c1, t1, b1⟩ := g.be
  obtain ⟨c2, t2, b2⟩ := g.bu
  have e1 := eql_same aU
  have e2 := eql_other (Ne.symm h.eu) _ b2 b1
  clear g b1 b2
  go_enter Tryz.func29, Tryz.ntmps29
  go_wp2_with (refine wpList_store_blk rfl _ _ _ rfl w.heap.size rfl _ _ rfl _ (blk_alloc (blk_alloc (blk_at _ _ rfl))) rfl infoR (by simp [Value.oneCell']) ?_; intro w1 hb hk)
  refine ret_blk rfl w.heap.size _ _ rfl hb Tryz.underlying65 infoR rfl ⟨rfl, ?_⟩
  exact (((((Kept.refl (· < w.heap.size) w).alloc _).alloc _).alloc _).trans (hk.mono (fun k h _ => by omega))).below (Nat.le_refl _)
set_option maxRecDepth 10000 in
set_option maxHeartbeats 4000000 in
theorem fault_large {B : Nat} {w : World} {aE aU aT : Addr} (h : GV B w aE aU aT) : Calls Tryz.prog 29 #[.iface 251 (.pointer (some aT))] w fun e w' => e = .returned (faultV 3 0 0) ∧ Below w.heap.size w w' := by
  have g := ((h.alloc (.cells #[.int .i64 0, .int .u32 0, .int .u32 0, .int .i64 0, .int .i64 0, .int .u32 0, .int .i64 0, .slice none 0 0, .int .u32 0, .int .u32 0, .int .u32 0, .int .u32 0, .bool false, .bool false, .int .u32 0, .int .i64 0, .slice none 0 0] 65)).alloc (.cells #[.int .u32 0] 117)).alloc (.cells #[.int .u32 0, .int .u32 0, .nilIface] 120)
  have g1 := g.e
  have g2 := g.u
  have g3 := g.t
  obtain ⟨c1, t1, b1⟩ := g.be
  obtain ⟨c2, t2, b2⟩ := g.bu
  obtain ⟨c3, t3, b3⟩ := g.bt
  have e2 := eql_other (Ne.symm h.et') _ b3 b1
  have e3 := eql_other (Ne.symm h.ut) _ b3 b2
  clear g b1 b2 b3
  go_enter Tryz.func29, Tryz.ntmps29
  go_wp2_with (first | (go_at_call 48; refine (is_E aT _).mono ?_; rintro e w' ⟨rfl, rfl⟩) | (refine wpList_store_blk rfl _ _ _ rfl w.heap.size rfl _ _ rfl _ (blk_alloc (blk_alloc (blk_at _ _ rfl))) rfl infoR (by simp [Value.oneCell']) ?_; intro w1 hb hk))
  refine ret_blk rfl w.heap.size _ _ rfl hb Tryz.underlying65 infoR rfl ⟨rfl, ?_⟩
  exact (((((Kept.refl (· < w.heap.size) w).alloc _).alloc _).alloc _).trans (hk.mono (fun k h _ => by omega))).below (Nat.le_refl _)
set_option maxRecDepth 10000 in
set_option maxHeartbeats 4000000 in
theorem fault_conn {B : Nat} {w : World} {aE aU aT : Addr} (h : GV B w aE aU aT) (c : Int) : Calls Tryz.prog 29 #[.iface 117 (.int .u32 c)] w fun e w' => e = .returned (faultV 4 c 0) ∧ Below w.heap.size w w' := by
  have g := ((h.alloc (.cells #[.int .i64 0, .int .u32 0, .int .u32 0, .int .i64 0, .int .i64 0, .int .u32 0, .int .i64 0, .slice none 0 0, .int .u32 0, .int .u32 0, .int .u32 0, .int .u32 0, .bool false, .bool false, .int .u32 0, .int .i64 0, .slice none 0 0] 65)).alloc (.cells #[.int .u32 0] 117)).alloc (.cells #[.int .u32 0, .int .u32 0, .nilIface] 120)
  have g1 := g.e
  have g2 := g.u
  have g3 := g.t
  have g4 := g.et
  clear g
  have e1 := fun u v w => run_eql_iface_types (P := Tryz.prog) (ti := 77) 117 251 u v Tryz.underlying77 (by decide) w
  go_enter Tryz.func29, Tryz.ntmps29
  go_wp2_with (first
    | (go_at_call 48; refine (is_C c aT _).mono ?_; rintro e w' ⟨rfl, rfl⟩)
    | (go_at_call 49; refine (as_CC c (w.heap.size + 1) (.int .u32 0) _ g4 (blk_alloc (blk_at _ _ (by simp)))).mono ?_; rintro e w2 ⟨rfl, k2, b2⟩; have c2 : w2.cell? ⟨w.heap.size + 1, 0, none⟩ = some (.int .u32 c) := blk_cell b2 0)
    | (refine wpList_store_blk rfl _ _ _ rfl w.heap.size rfl _ _ rfl _ (k2.at (by omega) (blk_alloc (blk_alloc (blk_at _ _ rfl)))) rfl infoR (by simp [Value.oneCell']) ?_; intro w1 hb hk))
  refine ret_blk rfl w.heap.size _ _ rfl hb Tryz.underlying65 infoR rfl ⟨rfl, ?_⟩
  exact ((((((Kept.refl (· < w.heap.size) w).alloc _).alloc _).alloc _).trans (k2.mono (fun k h _ => by omega))).trans (hk.mono (fun k h _ => by omega))).below (Nat.le_refl _)
set_option maxRecDepth 10000 in
set_option maxHeartbeats 4000000 in
theorem fault_stream {B : Nat} {w : World} {aE aU aT : Addr} (h : GV B w aE aU aT) (i c : Int) : Calls Tryz.prog 29 #[.iface 120 (.agg #[.int .u32 i, .int .u32 c, .nilIface])] w fun e w' => e = .returned (faultV 5 c i) ∧ Below w.heap.size w w' := by
  have g := ((h.alloc (.cells #[.int .i64 0, .int .u32 0, .int .u32 0, .int .i64 0, .int .i64 0, .int .u32 0, .int .i64 0, .slice none 0 0, .int .u32 0, .int .u32 0, .int .u32 0, .int .u32 0, .bool false, .bool false, .int .u32 0, .int .i64 0, .slice none 0 0] 65)).alloc (.cells #[.int .u32 0] 117)).alloc (.cells #[.int .u32 0, .int .u32 0, .nilIface] 120)
  have g1 := g.e
  have g2 := g.u
  have g3 := g.t
  have g4 := g.et
  have e1 := fun u v w => run_eql_iface_types (P := Tryz.prog) (ti := 77) 120 251 u v Tryz.underlying77 (by decide) w
  go_enter Tryz.func29, Tryz.ntmps29
  go_wp2_with (first
    | (go_at_call 48; refine (is_S i c aT _).mono ?_; rintro e w' ⟨rfl, rfl⟩)
    | (go_at_call 49; (with_reducible refine (as_SC i c (w.heap.size + 1) _ g4).mono ?_); rintro e w2 ⟨rfl, k2⟩)
    | (go_at_call 49; refine (as_SS i c (w.heap.size + 1 + 1) _ _ _ w2 (g.below k2).et (blk_below (blk_at _ _ (by simp)) k2)).mono ?_; rintro e w3 ⟨rfl, k3, b3⟩; have c2 : w3.cell? ⟨w.heap.size + 1 + 1, 0, none⟩ = some (.int .u32 i) := blk_cell b3 0; have c3 : w3.cell? ⟨w.heap.size + 1 + 1, 1, none⟩ = some (.int .u32 c) := blk_cell b3 1)
    | (refine wpList_store_blk rfl _ _ _ rfl w.heap.size rfl _ _ rfl _ (k3.at (by omega) (blk_below (blk_alloc (blk_alloc (blk_at _ _ rfl))) k2)) rfl infoR (by simp [Value.oneCell']) ?_; intro w1 hb hk))
  refine ret_blk rfl w.heap.size _ _ rfl hb Tryz.underlying65 infoR rfl ⟨rfl, ?_⟩
  exact (((((((Kept.refl (· < w.heap.size) w).alloc _).alloc _).alloc _).trans (Kept.all k2)).trans (k3.mono (fun k h _ => by omega))).trans (hk.mono (fun k h _ => by omega))).below (Nat.le_refl _)

theorem fault_any {B : Nat} {w : World} {aE aU aT : Addr} (h : GV B w aE aU aT) (f c s : Int) (hf : f = 0 ∧ c = 0 ∧ s = 0 ∨ f = 1 ∧ c = 0 ∧ s = 0 ∨ f = 2 ∧ c = 0 ∧ s = 0 ∨ f = 3 ∧ c = 0 ∧ s = 0 ∨ f = 4 ∧ s = 0 ∨ f = 5) :
    Calls Tryz.prog 29 #[errV aE aU aT f c s] w fun e w' => e = .returned (faultV f c s) ∧ Below w.heap.size w w' := by
  rcases hf with ⟨rfl, rfl, rfl⟩ | ⟨rfl, rfl, rfl⟩ | ⟨rfl, rfl, rfl⟩ | ⟨rfl, rfl, rfl⟩ | ⟨rfl, rfl⟩ | rfl
  · exact fault_nil w
  · exact fault_eof h
  · exact fault_cut h
  · exact fault_large h
  · exact fault_conn h c
  · exact fault_stream h s c
end Go.Proofs.YtfdlbjibninakaaGreatDoor

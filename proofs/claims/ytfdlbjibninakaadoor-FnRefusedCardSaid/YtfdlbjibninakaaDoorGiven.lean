/- laws.given of a frame without settings; impl.write and impl.Write of one frame that is refused. -/
import Derived.Test.YtfdlbjibninakaaDoorRefuse2
import Derived.Test.YtfdlbjibninakaaDoorWs3
namespace Go.Proofs.YtfdlbjibninakaaDoor
open Go.RowKit

/-- The cells of a frame. -/
def frameC (ty fl st ln : Int) (data : Value) (pr la co inc : Int) (hp ex : Bool) (dep wt : Int) (set : Value) : Array Value :=
  #[.int .i64 ty, .int .i64 fl, .int .u32 st, .int .i64 ln, data, .int .u32 pr, .int .u32 la, .int .u32 co, .int .u32 inc, .bool hp, .bool ex, .int .u32 dep, .int .i64 wt, set]
theorem infoFi : (Tryd.prog.info? 42).map (·.size) = some 14 := by kernel_rfl
theorem infoFs : (Tryd.prog.info? 35).map (·.size) = some 14 := by kernel_rfl

variable {w : World}
set_option maxRecDepth 10000 in
set_option maxHeartbeats 4000000 in
theorem given_nil (ty fl st ln pr la co inc dep wt : Int) (hp ex : Bool) (a : Option Addr) (n c : Nat) (w : World) :
    Calls Tryd.prog 18 #[.agg (frameC ty fl st ln (.slice a n c) pr la co inc hp ex dep wt (.slice none 0 0))] w fun e w' =>
      e = .returned (.agg (frameC ty fl st ln (.slice a n c) pr la co inc hp ex dep wt (.slice none 0 0))) ∧ Below w.heap.size w w' := by
  unfold frameC
  go_enter Tryd.func18, Tryd.ntmps18
  go_wp2_with (refine wpList_store_blk rfl _ _ _ rfl (w.heap.size + 2) rfl #[.int .i64 ty, .int .i64 fl, .int .u32 st, .int .i64 ln, .slice a n c, .int .u32 pr, .int .u32 la, .int .u32 co, .int .u32 inc, .bool hp, .bool ex, .int .u32 dep, .int .i64 wt, .slice none 0 0] _ rfl 42 (blk_at _ _ (by simp)) rfl infoFi (by simp [Value.oneCell']) ?_; intro w1 hb1 hk1; have c13 : w1.cell? ⟨w.heap.size, 13, none⟩ = some (.slice none 0 0) := hk1.cell (by simp) (blk_cell (blk_alloc (blk_alloc (blk_at w _ rfl))) 13))
  refine wp_loop_rounds 1 ?_
  rw [rounds_succ]
  go_wp2_with (first
    | (refine wpList_load_blk rfl _ _ rfl (w.heap.size + 2) rfl _ 42 hb1 Tryd.underlying42 infoFi ?_)
    | (refine wpList_store_blk rfl _ _ _ rfl (w.heap.size + 1) rfl _ _ rfl 42 (hk1.at (by simp) (blk_alloc (blk_at _ _ (by simp)))) rfl infoFi (by simp [Value.oneCell']) ?_; intro w2 hb2 hk2))
  refine ret_blk rfl (w.heap.size + 1) _ _ rfl hb2 Tryd.underlying42 infoFi rfl ⟨rfl, ?_⟩
  exact (((((Kept.refl (· < w.heap.size) w).alloc _).alloc _).alloc _).trans (hk1.mono (fun k h _ => by omega))).trans (hk2.mono (fun k h _ => by omega)) |>.below (Nat.le_refl _)
end Go.Proofs.YtfdlbjibninakaaDoor

/- impl.write of a frame that is refused. -/
import Derived.Test.YtfdlbjibninakaaDoorGiven
namespace Go.Proofs.YtfdlbjibninakaaDoor
open Go.RowKit

theorem infoHp : (Tryd.prog.info? 136).map (·.size) = some 10 := by kernel_rfl
theorem infoPp : (Tryd.prog.info? 134).map (·.size) = some 5 := by kernel_rfl
theorem and01 : bits .and .i64 0 1 = 0 := by decide
theorem and04 : bits .and .i64 0 4 = 0 := by decide
theorem wrap0 : IntKind.u8.wrap 0 = 0 := by decide
/-- The frame that the law tries. -/
abbrev triedC (k s i : Int) (d : Nat) : Array Value := frameC k 0 s 0 (.slice (some ⟨d, 0, none⟩) 1 1) 1 0 0 i false false 0 0 (.slice none 0 0)
variable {w : World} {bF : Nat} {vS vP vB : Value}
theorem RS.drewN (h : RS w bF vS vP vB) (n : Nat) : RS (w.drewN n) bF vS vP vB := ⟨h.al, h.es, h.ep, h.eb⟩
theorem Kept.drewN {K : Nat → Prop} {w w' : World} (h : Kept K w w') (n : Nat) : Kept K w (w'.drewN n) := ⟨h.os, h.tape, h.output, h.size, h.block⟩
theorem Below.undrewN {B n : Nat} {w w1 : World} (h : Below B (w.drewN n) w1) : Below B w w1 := ⟨h.os, h.tape, h.output, h.size, h.block⟩
theorem below_one (w : World) (o : Obj) : Below w.heap.size w (w.alloc o) := ((Kept.refl (· < w.heap.size) w).alloc o).below (Nat.le_refl _)
theorem RS.store {w0 w1 : World} (h : RS w bF vS vP vB) (h0 : RS w0 bF vS vP vB) {g : Nat} (hg : w0.heap.size ≤ g) (hk : Kept (· ≠ g) w w1) : RS w1 bF vS vP vB := by
  have l1 : bF < w0.heap.size := World.block_lt_of_cell? w0 _ h0.al
  have l2 : 5 < w0.heap.size := World.block_lt_of_cell? w0 _ h0.es
  have l3 : 8 < w0.heap.size := World.block_lt_of_cell? w0 _ h0.ep
  have l4 : 9 < w0.heap.size := World.block_lt_of_cell? w0 _ h0.eb
  exact ⟨hk.cell (by omega) h.al, hk.cell (by omega) h.es, hk.cell (by omega) h.ep, hk.cell (by omega) h.eb⟩
theorem Refuses.after {w w1 : World} {e : Ending} {w' : World} (h : Refuses w1 e w') (hb : Below w.heap.size w w1) : Refuses w e w' := by
  obtain ⟨v, rfl, h⟩ := h
  exact ⟨v, rfl, Below.then hb (Nat.le_refl _) h⟩

set_option maxRecDepth 10000 in
set_option maxHeartbeats 4000000 in
theorem param_any (ty fl st ln pr la co inc dep wt : Int) (hp ex : Bool) (data set : Value) (w : World) :
    Calls Tryd.prog 58 #[.agg (frameC ty fl st ln data pr la co inc hp ex dep wt set)] w fun e w' =>
      e = .returned (.agg #[.int .u32 dep, .bool ex, .int .u8 (IntKind.u8.wrap wt), .int .u8 0, .int .u8 0]) ∧ Below w.heap.size w w' := by
  unfold frameC
  go_enter Tryd.func58, Tryd.ntmps58
  go_wp2_with (refine wpList_store_blk rfl _ _ _ rfl (w.heap.size + 1) rfl #[.int .u32 dep, .bool ex, .int .u8 (IntKind.u8.wrap wt), .int .u8 0, .int .u8 0] _ rfl 134 (blk_at _ _ (by simp)) rfl infoPp (by simp [Value.oneCell']) ?_; intro w1 hb1 hk1)
  refine ret_blk rfl (w.heap.size + 1) _ _ rfl hb1 Tryd.underlying134 infoPp rfl ⟨rfl, ?_⟩
  exact (((Kept.refl (· < w.heap.size) w).alloc _).alloc _).trans (hk1.mono (fun k h _ => by omega)) |>.below (Nat.le_refl _)

set_option maxRecDepth 10000 in
set_option maxHeartbeats 4000000 in
theorem write_data_ref (h : RS w bF vS vP vB) (s i : Int) (d : Nat) (h0 : 0 ≤ s) (h1 : s < 4294967296) (hs : vs s = false) :
    Calls Tryd.prog 36 #[.pointer (some ⟨bF, 0, none⟩), .agg (triedC 0 s i d), .slice none 0 0] w (Refuses w) := by
  have a1 := and01
  have a4 := and04
  have hA := h.alloc (.cells (triedC 0 s i d) 42)
  unfold triedC frameC at hA ⊢
  go_enter Tryd.func36, Tryd.ntmps36
  go_wp2_with fail
  go_quiet (fail)
  go_wp2_with (go_at_call 57; refine (data_ref (hA.drewN _) s h0 h1 hs _ _).mono ?_; rintro e w' ⟨v, rfl, hb⟩)
  go_ret
  exact Refuses.after ⟨_, rfl, hb⟩ (by first | exact below_one _ _ | exact ((Kept.refl (· < w.heap.size) w).alloc _).drewN _ |>.below (Nat.le_refl _))
set_option maxRecDepth 10000 in
set_option maxHeartbeats 4000000 in
theorem write_rst_ref (h : RS w bF vS vP vB) (s i : Int) (d : Nat) (h0 : 0 ≤ s) (h1 : s < 4294967296) (hs : vs s = false) (pad : Value) :
    Calls Tryd.prog 36 #[.pointer (some ⟨bF, 0, none⟩), .agg (triedC 3 s i d), pad] w (Refuses w) := by
  have a1 := and01
  have a4 := and04
  have hA := h.alloc (.cells (triedC 3 s i d) 42)
  unfold triedC frameC at hA ⊢
  go_enter Tryd.func36, Tryd.ntmps36
  go_wp2_with fail
  go_quiet (fail)
  go_wp2_with (go_at_call 61; refine (rst_ref (hA.drewN _) s h0 h1 hs _).mono ?_; rintro e w2 ⟨v, rfl, hb⟩)
  go_ret
  exact Refuses.after ⟨_, rfl, hb⟩ (by first | exact below_one _ _ | exact ((Kept.refl (· < w.heap.size) w).alloc _).drewN _ |>.below (Nat.le_refl _))
set_option maxRecDepth 10000 in
set_option maxHeartbeats 4000000 in
theorem write_cont_ref (h : RS w bF vS vP vB) (s i : Int) (d : Nat) (h0 : 0 ≤ s) (h1 : s < 4294967296) (hs : vs s = false) (pad : Value) :
    Calls Tryd.prog 36 #[.pointer (some ⟨bF, 0, none⟩), .agg (triedC 9 s i d), pad] w (Refuses w) := by
  have a1 := and01
  have a4 := and04
  have hA := h.alloc (.cells (triedC 9 s i d) 42)
  unfold triedC frameC at hA ⊢
  go_enter Tryd.func36, Tryd.ntmps36
  go_wp2_with fail
  go_quiet (fail)
  go_wp2_with (go_at_call 68; refine (cont_ref (hA.drewN _) s h0 h1 hs _ _).mono ?_; rintro e w2 ⟨v, rfl, hb⟩)
  go_ret
  exact Refuses.after ⟨_, rfl, hb⟩ (by first | exact below_one _ _ | exact ((Kept.refl (· < w.heap.size) w).alloc _).drewN _ |>.below (Nat.le_refl _))
set_option maxRecDepth 10000 in
set_option maxHeartbeats 4000000 in
theorem write_window_ref (h : RS w bF vS vP vB) (s i : Int) (d : Nat) (hs : vs i = false) (pad : Value) :
    Calls Tryd.prog 36 #[.pointer (some ⟨bF, 0, none⟩), .agg (triedC 8 s i d), pad] w (Refuses w) := by
  have a1 := and01
  have a4 := and04
  have hA := h.alloc (.cells (triedC 8 s i d) 42)
  unfold triedC frameC at hA ⊢
  go_enter Tryd.func36, Tryd.ntmps36
  go_wp2_with fail
  go_quiet (fail)
  go_wp2_with (go_at_call 67; refine (window_ref (hA.drewN _) _ i hs).mono ?_; rintro e w2 ⟨v, rfl, hb⟩)
  go_ret
  exact Refuses.after ⟨_, rfl, hb⟩ (by first | exact below_one _ _ | exact ((Kept.refl (· < w.heap.size) w).alloc _).drewN _ |>.below (Nat.le_refl _))
set_option maxRecDepth 10000 in
set_option maxHeartbeats 4000000 in
theorem write_promise_ref (h : RS w bF vS vP vB) (s i : Int) (d : Nat) (h0 : 0 ≤ s) (h1 : s < 4294967296) (hs : vs s = false) (a : Option Addr) (n c : Nat) :
    Calls Tryd.prog 36 #[.pointer (some ⟨bF, 0, none⟩), .agg (triedC 5 s i d), .slice a n c] w (Refuses w) := by
  have a1 := and01
  have a4 := and04
  have hA := h.alloc (.cells (triedC 5 s i d) 42)
  unfold triedC frameC at hA ⊢
  go_enter Tryd.func36, Tryd.ntmps36
  go_wp2_with fail
  go_quiet (fail)
  go_wp2_with (go_at_call 64; refine (promise_ref (hA.drewN _) s h0 h1 hs _ _ _ _).mono ?_; rintro e w2 ⟨v, rfl, hb⟩)
  go_ret
  exact Refuses.after ⟨_, rfl, hb⟩ (by first | exact below_one _ _ | exact ((Kept.refl (· < w.heap.size) w).alloc _).drewN _ |>.below (Nat.le_refl _))
set_option maxRecDepth 10000 in
set_option maxHeartbeats 4000000 in
theorem write_pad_ref (h : RS w bF vS vP vB) (s i : Int) (d : Nat) (h0 : 0 ≤ s) (h1 : s < 4294967296) (b o n c : Nat) (l : List Int) (hp : RdB w (.slice (some ⟨b, o, none⟩) n c) l) (hl : 0 < l.length) (hbad : (vs s && !badPad l) = false) :
    Calls Tryd.prog 36 #[.pointer (some ⟨bF, 0, none⟩), .agg (triedC 0 s i d), .slice (some ⟨b, o, none⟩) n c] w (Refuses w) := by
  have a1 := and01
  have a4 := and04
  have hA := h.alloc (.cells (triedC 0 s i d) 42)
  have hpA := hp.below (below_one w (.cells (triedC 0 s i d) 42))
  have hr : ∀ m (p1 p2 : Value), Calls Tryd.prog 92 #[.pointer (some ⟨bF, 0, none⟩), .int .u32 s, p1, p2, .slice (some ⟨b, o, none⟩) n c] ((w.alloc (.cells (triedC 0 s i d) 42)).drewN m) (Refuses ((w.alloc (.cells (triedC 0 s i d) 42)).drewN m)) := fun m p1 p2 => by
    cases hv : vs s with
    | false => exact startData_stream (hA.drewN m) s h0 h1 hv _ _ _
    | true => exact startData_pad (hA.drewN m) s h0 h1 hv _ _ _ l hpA hl (by simpa [hv] using hbad)
  unfold triedC frameC at hr
  unfold triedC frameC at hA ⊢
  go_enter Tryd.func36, Tryd.ntmps36
  go_wp2_with fail
  go_quiet (fail)
  go_wp2_with (go_at_call 56; refine (dataPadded_ref (hr _ _ _)).mono ?_; rintro e w2 ⟨v, rfl, hb⟩)
  go_ret
  exact Refuses.after ⟨_, rfl, hb⟩ (by first | exact below_one _ _ | exact ((Kept.refl (· < w.heap.size) w).alloc _).drewN _ |>.below (Nat.le_refl _))
set_option maxRecDepth 10000 in
set_option maxHeartbeats 4000000 in
theorem write_headers_ref (h : RS w bF vS vP vB) (s i : Int) (d : Nat) (h0 : 0 ≤ s) (h1 : s < 4294967296) (hs : vs s = false) (a : Option Addr) (n c : Nat) :
    Calls Tryd.prog 36 #[.pointer (some ⟨bF, 0, none⟩), .agg (triedC 1 s i d), .slice a n c] w (Refuses w) := by
  have a1 := and01
  have a4 := and04
  have hA := h.alloc (.cells (triedC 1 s i d) 42)
  unfold triedC frameC at hA ⊢
  go_enter Tryd.func36, Tryd.ntmps36
  go_wp2_with fail
  go_quiet (fail)
  go_wp2_with (first
    | (refine wpList_store_blk rfl _ _ _ rfl (w.heap.size + 1) rfl #[.int .u32 s, .slice (some ⟨d, 0, none⟩) 1 1, .bool false, .bool false, .int .u8 (IntKind.u8.wrap n), .int .u32 0, .bool false, .int .u8 0, .int .u8 0, .int .u8 0] _ rfl 136 (blk_at _ _ (by simp)) rfl infoHp (by simp [Value.oneCell']) ?_; intro w1 hb1 hk1; have hA1 : RS w1 bF vS vP vB := RS.store ((hA.drewN _).alloc _) h (by simp) hk1; have c9 : w1.cell? ⟨w.heap.size, 9, none⟩ = some (.bool false) := hk1.cell (by simp) (blk_cell (blk_alloc (w := (w.alloc _).drewN _) (blk_at w _ rfl)) 9))
    | (refine wpList_load_blk rfl _ _ rfl (w.heap.size + 1) rfl _ 136 hb1 Tryd.underlying136 infoHp ?_)
    | (go_at_call 59; refine (headers_ref hA1 s h0 h1 hs _ _ _ _ _ _ _ _ _).mono ?_; rintro e w2 ⟨v, rfl, hb⟩))
  go_ret
  exact Refuses.after ⟨_, rfl, hb⟩ (by first | exact (((((Kept.refl (· < w.heap.size) w).alloc _).drewN _).alloc _).trans (hk1.mono (fun k h _ => by omega))).below (Nat.le_refl _) | exact ((Kept.refl (· < w.heap.size) w).alloc _).drewN _ |>.below (Nat.le_refl _))
set_option maxRecDepth 10000 in
set_option maxHeartbeats 4000000 in
theorem write_priority_ref (h : RS w bF vS vP vB) (s i : Int) (d : Nat) (h0 : 0 ≤ s) (h1 : s < 4294967296) (hs : vs s = false) (pad : Value) :
    Calls Tryd.prog 36 #[.pointer (some ⟨bF, 0, none⟩), .agg (triedC 2 s i d), pad] w (Refuses w) := by
  have a1 := and01
  have a4 := and04
  have hA := h.alloc (.cells (triedC 2 s i d) 42)
  unfold triedC frameC at hA ⊢
  go_enter Tryd.func36, Tryd.ntmps36
  go_wp2_with fail
  go_quiet (fail)
  go_wp2_with fail
  go_region_with (first
    | (go_at_call 58; refine (param_any _ _ _ _ _ _ _ _ _ _ _ _ _ _ _).mono ?_; rintro e w1 ⟨rfl, b1⟩; have c2 : w1.cell? ⟨w.heap.size, 2, none⟩ = some (.int .u32 s) := cell_below (blk_cell (blk_at w _ rfl) 2) b1)
    | (go_at_call 60; (refine (priority_ref ((hA.drewN _).below b1) s h0 h1 hs _ _ _ _ _).mono ?_); rintro e w2 ⟨v, rfl, hb⟩))
  all_goals go_wp2
  all_goals go_ret
  all_goals exact Refuses.after ⟨_, rfl, hb⟩ (Below.then ((Kept.refl (· < w.heap.size) w).alloc _ |>.below (Nat.le_refl _)) (by simp) (Below.undrewN b1))

end Go.Proofs.YtfdlbjibninakaaDoor

/- Frames that are refused: the Write methods at a stream that must not be, at a padding that must not be, at an increment out of range. -/
import Derived.Test.YtfdlbjibninakaaDoorVs
import Derived.BigQuiet
import Derived.Deep.QuietTactic
import Derived.Deep.RegionHeld3
namespace Go.Proofs.YtfdlbjibninakaaDoor
open Go.RowKit

/-- A framer that refuses, and the errors that she refuses with. -/
structure RS (w : World) (bF : Nat) (vS vP vB : Value) : Prop where
  al : w.cell? ⟨bF, 21, none⟩ = some (.bool false)
  es : w.cell? ⟨5, 0, none⟩ = some (.iface 247 vS)
  ep : w.cell? ⟨8, 0, none⟩ = some (.iface 247 vP)
  eb : w.cell? ⟨9, 0, none⟩ = some (.iface 247 vB)
section
variable {w w' : World} {bF : Nat} {vS vP vB : Value}
theorem RS.alloc (h : RS w bF vS vP vB) (o : Obj) : RS (w.alloc o) bF vS vP vB := ⟨cell_alloc h.al o, cell_alloc h.es o, cell_alloc h.ep o, cell_alloc h.eb o⟩
theorem RS.drew (h : RS w bF vS vP vB) : RS w.drew bF vS vP vB := ⟨h.al, h.es, h.ep, h.eb⟩
theorem RS.below (h : RS w bF vS vP vB) (hb : Below w.heap.size w w') : RS w' bF vS vP vB := ⟨cell_below h.al hb, cell_below h.es hb, cell_below h.ep hb, cell_below h.eb hb⟩
end
/-- An error is returned, and nothing that was there is changed. -/
def Refuses (w : World) (e : Ending) (w' : World) : Prop := ∃ v, e = .returned (.iface 247 v) ∧ Below w.heap.size w w'

set_option maxRecDepth 10000 in
set_option maxHeartbeats 1000000 in
theorem errorsNew (s : ByteArray) (w : World) : Calls Tryd.prog 100 #[.string s] w fun e w' => e = .returned (.iface 247 (.pointer (some ⟨w.heap.size, 0, none⟩))) ∧ w' = w.alloc (.cells #[.string s] 249) := by
  go_enter Tryd.func100, Tryd.ntmps100
  go_wp2_with fail
  go_ret
  exact ⟨rfl, rfl⟩

variable {w : World} {bF : Nat} {vS vP vB : Value}
set_option maxRecDepth 10000 in
set_option maxHeartbeats 1000000 in
theorem headers_ref (h : RS w bF vS vP vB) (s : Int) (h0 : 0 ≤ s) (h1 : s < 4294967296) (hs : vs s = false) (d e1 e2 pl p1 p2 p3 p4 p5 : Value) :
    Calls Tryd.prog 59 #[.pointer (some ⟨bF, 0, none⟩), .agg #[.int .u32 s, d, e1, e2, pl, p1, p2, p3, p4, p5]] w (Refuses w) := by
  have g1 := (h.alloc (.cells #[.int .u32 s, d, e1, e2, pl, p1, p2, p3, p4, p5] 136)).al
  have g2 := (h.alloc (.cells #[.int .u32 s, d, e1, e2, pl, p1, p2, p3, p4, p5] 136)).es
  go_enter Tryd.func59, Tryd.ntmps59
  go_wp2_with (go_at_call 93; refine (validStreamID_any s _ h0 h1).mono ?_; rw [hs]; rintro e w' ⟨rfl, rfl⟩)
  go_ret
  exact ⟨_, rfl, ((Kept.refl (· < w.heap.size) w).alloc _).below (Nat.le_refl _)⟩
set_option maxRecDepth 10000 in
set_option maxHeartbeats 1000000 in
theorem priority_ref (h : RS w bF vS vP vB) (s : Int) (h0 : 0 ≤ s) (h1 : s < 4294967296) (hs : vs s = false) (p1 p2 p3 p4 p5 : Value) :
    Calls Tryd.prog 60 #[.pointer (some ⟨bF, 0, none⟩), .int .u32 s, .agg #[p1, p2, p3, p4, p5]] w (Refuses w) := by
  have g1 := (h.alloc (.cells #[p1, p2, p3, p4, p5] 134)).al
  have g2 := (h.alloc (.cells #[p1, p2, p3, p4, p5] 134)).es
  go_enter Tryd.func60, Tryd.ntmps60
  go_wp2_with (go_at_call 93; refine (validStreamID_any s _ h0 h1).mono ?_; rw [hs]; rintro e w' ⟨rfl, rfl⟩)
  go_ret
  exact ⟨_, rfl, ((Kept.refl (· < w.heap.size) w).alloc _).below (Nat.le_refl _)⟩
set_option maxRecDepth 10000 in
set_option maxHeartbeats 1000000 in
theorem rst_ref (h : RS w bF vS vP vB) (s : Int) (h0 : 0 ≤ s) (h1 : s < 4294967296) (hs : vs s = false) (c : Value) :
    Calls Tryd.prog 61 #[.pointer (some ⟨bF, 0, none⟩), .int .u32 s, c] w (Refuses w) := by
  have g1 := h.al
  have g2 := h.es
  go_enter Tryd.func61, Tryd.ntmps61
  go_wp2_with (go_at_call 93; refine (validStreamID_any s _ h0 h1).mono ?_; rw [hs]; rintro e w' ⟨rfl, rfl⟩)
  go_ret
  exact ⟨_, rfl, Below.refl _ _⟩
set_option maxRecDepth 10000 in
set_option maxHeartbeats 1000000 in
theorem promise_ref (h : RS w bF vS vP vB) (s : Int) (h0 : 0 ≤ s) (h1 : s < 4294967296) (hs : vs s = false) (p1 p2 p3 p4 : Value) :
    Calls Tryd.prog 64 #[.pointer (some ⟨bF, 0, none⟩), .agg #[.int .u32 s, p1, p2, p3, p4]] w (Refuses w) := by
  have g1 := (h.alloc (.cells #[.int .u32 s, p1, p2, p3, p4] 145)).al
  have g2 := (h.alloc (.cells #[.int .u32 s, p1, p2, p3, p4] 145)).es
  go_enter Tryd.func64, Tryd.ntmps64
  go_wp2_with (go_at_call 93; refine (validStreamID_any s _ h0 h1).mono ?_; rw [hs]; rintro e w' ⟨rfl, rfl⟩)
  go_ret
  exact ⟨_, rfl, ((Kept.refl (· < w.heap.size) w).alloc _).below (Nat.le_refl _)⟩
set_option maxRecDepth 10000 in
set_option maxHeartbeats 1000000 in
theorem cont_ref (h : RS w bF vS vP vB) (s : Int) (h0 : 0 ≤ s) (h1 : s < 4294967296) (hs : vs s = false) (p1 p2 : Value) :
    Calls Tryd.prog 68 #[.pointer (some ⟨bF, 0, none⟩), .int .u32 s, p1, p2] w (Refuses w) := by
  have g1 := h.al
  have g2 := h.es
  go_enter Tryd.func68, Tryd.ntmps68
  go_wp2_with (go_at_call 93; refine (validStreamID_any s _ h0 h1).mono ?_; rw [hs]; rintro e w' ⟨rfl, rfl⟩)
  go_ret
  exact ⟨_, rfl, Below.refl _ _⟩
set_option maxRecDepth 10000 in
set_option maxHeartbeats 1000000 in
theorem window_ref (h : RS w bF vS vP vB) (s : Value) (i : Int) (hs : vs i = false) :
    Calls Tryd.prog 67 #[.pointer (some ⟨bF, 0, none⟩), s, .int .u32 i] w (Refuses w) := by
  have g1 := h.al
  by_cases hi : i < 1
  · go_enter Tryd.func67, Tryd.ntmps67
    go_wp2_with (go_at_call 100; refine (errorsNew _ _).mono ?_; rintro e w' ⟨rfl, rfl⟩)
    go_ret
    exact ⟨_, rfl, ((Kept.refl (· < w.heap.size) w).alloc _).below (Nat.le_refl _)⟩
  · have hi2 : 2147483647 < i := by
      unfold vs at hs
      simp at hs
      have := hs (by omega)
      omega
    go_enter Tryd.func67, Tryd.ntmps67
    go_wp2_with (go_at_call 100; refine (errorsNew _ _).mono ?_; rintro e w' ⟨rfl, rfl⟩)
    go_ret
    exact ⟨_, rfl, ((Kept.refl (· < w.heap.size) w).alloc _).below (Nat.le_refl _)⟩

/-- A DATA frame: a stream that must not be, a padding too long, or a byte of it that is not 0. -/
def badPad (l : List Int) : Bool := decide (255 < l.length) || l.any (· != 0)
set_option maxRecDepth 10000 in
set_option maxHeartbeats 4000000 in
theorem startData_stream (h : RS w bF vS vP vB) (s : Int) (h0 : 0 ≤ s) (h1 : s < 4294967296) (hs : vs s = false) (p1 p2 p3 : Value) :
    Calls Tryd.prog 92 #[.pointer (some ⟨bF, 0, none⟩), .int .u32 s, p1, p2, p3] w (Refuses w) := by
  have g1 := h.al
  have g2 := h.es
  go_enter Tryd.func92, Tryd.ntmps92
  go_wp2_with (go_at_call 93; refine (validStreamID_any s _ h0 h1).mono ?_; rw [hs]; rintro e w' ⟨rfl, rfl⟩)
  go_ret
  exact ⟨_, rfl, Below.refl _ _⟩
end Go.Proofs.YtfdlbjibninakaaDoor

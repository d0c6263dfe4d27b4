/- Reading: the state of a framer that reads; her header's reading. -/
import Derived.Test.YtfdlbjibninakaaGreatDoorPs5
import Derived.Deep.RegionHeld3
set_option linter.unusedVariables false
set_option linter.unusedSimpArgs false
namespace Go.Proofs.YtfdlbjibninakaaGreatDoor
open Go.RowKit

theorem inv_DataFrame (x : Addr) (w : World) : (method 391 126 (.pointer (some x)) "http2frames/pub/http2frames.invalidate").run Tryz.prog w = .ok (152, .pointer (some x)) w := by kernel_rfl
theorem inv_HeadersFrame (x : Addr) (w : World) : (method 391 129 (.pointer (some x)) "http2frames/pub/http2frames.invalidate").run Tryz.prog w = .ok (152, .pointer (some x)) w := by kernel_rfl
theorem inv_PriorityFrame (x : Addr) (w : World) : (method 391 136 (.pointer (some x)) "http2frames/pub/http2frames.invalidate").run Tryz.prog w = .ok (152, .pointer (some x)) w := by kernel_rfl
theorem inv_RSTStreamFrame (x : Addr) (w : World) : (method 391 139 (.pointer (some x)) "http2frames/pub/http2frames.invalidate").run Tryz.prog w = .ok (152, .pointer (some x)) w := by kernel_rfl
theorem inv_SettingsFrame (x : Addr) (w : World) : (method 391 142 (.pointer (some x)) "http2frames/pub/http2frames.invalidate").run Tryz.prog w = .ok (152, .pointer (some x)) w := by kernel_rfl
theorem inv_PushPromiseFrame (x : Addr) (w : World) : (method 391 149 (.pointer (some x)) "http2frames/pub/http2frames.invalidate").run Tryz.prog w = .ok (152, .pointer (some x)) w := by kernel_rfl
theorem inv_PingFrame (x : Addr) (w : World) : (method 391 152 (.pointer (some x)) "http2frames/pub/http2frames.invalidate").run Tryz.prog w = .ok (152, .pointer (some x)) w := by kernel_rfl
theorem inv_GoAwayFrame (x : Addr) (w : World) : (method 391 156 (.pointer (some x)) "http2frames/pub/http2frames.invalidate").run Tryz.prog w = .ok (152, .pointer (some x)) w := by kernel_rfl
theorem inv_WindowUpdateFrame (x : Addr) (w : World) : (method 391 159 (.pointer (some x)) "http2frames/pub/http2frames.invalidate").run Tryz.prog w = .ok (152, .pointer (some x)) w := by kernel_rfl
theorem inv_ContinuationFrame (x : Addr) (w : World) : (method 391 162 (.pointer (some x)) "http2frames/pub/http2frames.invalidate").run Tryz.prog w = .ok (152, .pointer (some x)) w := by kernel_rfl
theorem inv_PriorityUpdateFrame (x : Addr) (w : World) : (method 391 163 (.pointer (some x)) "http2frames/pub/http2frames.invalidate").run Tryz.prog w = .ok (152, .pointer (some x)) w := by kernel_rfl
theorem inv_UnknownFrame (x : Addr) (w : World) : (method 391 166 (.pointer (some x)) "http2frames/pub/http2frames.invalidate").run Tryz.prog w = .ok (152, .pointer (some x)) w := by kernel_rfl
/-- The types of frames. -/
def FrT (t : Nat) : Prop := t = 126 ∨ t = 129 ∨ t = 136 ∨ t = 139 ∨ t = 142 ∨ t = 149 ∨ t = 152 ∨ t = 156 ∨ t = 159 ∨ t = 162 ∨ t = 163 ∨ t = 166
theorem inv_any {t : Nat} (h : FrT t) (x : Addr) (w : World) : (method 391 t (.pointer (some x)) "http2frames/pub/http2frames.invalidate").run Tryz.prog w = .ok (152, .pointer (some x)) w := by
  unfold FrT at h
  rcases h with rfl | rfl | rfl | rfl | rfl | rfl | rfl | rfl | rfl | rfl | rfl | rfl
  · exact inv_DataFrame x w
  · exact inv_HeadersFrame x w
  · exact inv_PriorityFrame x w
  · exact inv_RSTStreamFrame x w
  · exact inv_SettingsFrame x w
  · exact inv_PushPromiseFrame x w
  · exact inv_PingFrame x w
  · exact inv_GoAwayFrame x w
  · exact inv_WindowUpdateFrame x w
  · exact inv_ContinuationFrame x w
  · exact inv_PriorityUpdateFrame x w
  · exact inv_UnknownFrame x w
theorem invalidate_any {p : Nat} {w : World} {c : Array Value} {t : TypeId} {v : Bool} (hp : w.heap[p]? = some (.cells c t (0, 0))) (hc : c[0]? = some (.bool v)) : Calls Tryz.prog 152 #[.pointer (some ⟨p, 0, none⟩)] w fun e w' => e = .returned (.tuple #[]) ∧ w.setCell ⟨p, 0, none⟩ (.bool false) = w' := by
  have k0 : w.cell? ⟨p, 0, none⟩ = some (.bool v) := (blk_cell hp 0).trans hc
  have f0 : w.frozen? ⟨p, 0, none⟩ = false := blk_free hp 0
  go_enter Tryz.func152, Tryz.ntmps152
  go_wp2
  go_end0
  exact ⟨rfl, rfl⟩

/-! ## A framer that reads -/
/-- Her cells. -/
structure FS (cs : Array Value) (cl bR : Nat) (lf : Value) (o m : Int) (rb : Value) : Prop where
  size : cs.size = 24
  c0 : cs[0]? = some (.iface 69 (.pointer (some ⟨bR, 0, none⟩)))
  c1 : cs[1]? = some lf
  c3 : cs[3]? = some (.func (.func 44) #[] #[])
  c4 : cs[4]? = some (.int .u32 o)
  c6 : cs[6]? = some (.int .u32 m)
  c16 : cs[16]? = some (.func (.func 45) #[] #[.pointer (some ⟨cl, 0, none⟩)])
  c17 : cs[17]? = some rb
  c22 : cs[22]? = some (.bool false)
  c23 : cs[23]? = some (.pointer none)
theorem get_set (cs : Array Value) (i j : Nat) (v : Value) (hi : i < cs.size) : (cs.setIfInBounds i v)[j]? = if i = j then some v else cs[j]? := by
  rw [Array.getElem?_setIfInBounds]
  by_cases e : i = j
  · subst e; simp [hi]
  · simp [e]
section
variable {cs : Array Value} {cl bR : Nat} {lf : Value} {o m : Int} {rb : Value}
theorem FS.some (h : FS cs cl bR lf o m rb) {i : Nat} (hi : i < 24) : ∃ v, cs[i]? = some v := ⟨_, Array.getElem?_eq_getElem (by rw [h.size]; exact hi)⟩
theorem FS.set (h : FS cs cl bR lf o m rb) {i : Nat} (hi : i = 2 ∨ i = 5) (v : Value) : FS (cs.setIfInBounds i v) cl bR lf o m rb := by
  have hs : i < cs.size := by rw [h.size]; omega
  refine ⟨by simp [h.size], ?_, ?_, ?_, ?_, ?_, ?_, ?_, ?_, ?_⟩ <;> rw [get_set _ _ _ _ hs, if_neg (by omega)]
  · exact h.c0
  · exact h.c1
  · exact h.c3
  · exact h.c4
  · exact h.c6
  · exact h.c16
  · exact h.c17
  · exact h.c22
  · exact h.c23
theorem FS.setLf (h : FS cs cl bR lf o m rb) (v : Value) : FS (cs.setIfInBounds 1 v) cl bR v o m rb := by
  have hs : 1 < cs.size := by rw [h.size]; omega
  refine ⟨by simp [h.size], ?_, ?_, ?_, ?_, ?_, ?_, ?_, ?_, ?_⟩ <;> rw [get_set _ _ _ _ hs]
  · rw [if_neg (by omega)]; exact h.c0
  · exact if_pos rfl
  · rw [if_neg (by omega)]; exact h.c3
  · rw [if_neg (by omega)]; exact h.c4
  · rw [if_neg (by omega)]; exact h.c6
  · rw [if_neg (by omega)]; exact h.c16
  · rw [if_neg (by omega)]; exact h.c17
  · rw [if_neg (by omega)]; exact h.c22
  · rw [if_neg (by omega)]; exact h.c23
theorem FS.setO (h : FS cs cl bR lf o m rb) (v : Int) : FS (cs.setIfInBounds 4 (.int .u32 v)) cl bR lf v m rb := by
  have hs : 4 < cs.size := by rw [h.size]; omega
  refine ⟨by simp [h.size], ?_, ?_, ?_, ?_, ?_, ?_, ?_, ?_, ?_⟩ <;> rw [get_set _ _ _ _ hs]
  · rw [if_neg (by omega)]; exact h.c0
  · rw [if_neg (by omega)]; exact h.c1
  · rw [if_neg (by omega)]; exact h.c3
  · exact if_pos rfl
  · rw [if_neg (by omega)]; exact h.c6
  · rw [if_neg (by omega)]; exact h.c16
  · rw [if_neg (by omega)]; exact h.c17
  · rw [if_neg (by omega)]; exact h.c22
  · rw [if_neg (by omega)]; exact h.c23
theorem FS.setRb (h : FS cs cl bR lf o m rb) (v : Value) : FS (cs.setIfInBounds 17 v) cl bR lf o m v := by
  have hs : 17 < cs.size := by rw [h.size]; omega
  refine ⟨by simp [h.size], ?_, ?_, ?_, ?_, ?_, ?_, ?_, ?_, ?_⟩ <;> rw [get_set _ _ _ _ hs]
  · rw [if_neg (by omega)]; exact h.c0
  · rw [if_neg (by omega)]; exact h.c1
  · rw [if_neg (by omega)]; exact h.c3
  · rw [if_neg (by omega)]; exact h.c4
  · rw [if_neg (by omega)]; exact h.c6
  · rw [if_neg (by omega)]; exact h.c16
  · exact if_pos rfl
  · rw [if_neg (by omega)]; exact h.c22
  · rw [if_neg (by omega)]; exact h.c23
theorem FS.filled (h : FS cs cl bR lf o m rb) {cs' : Array Value} {l : List Int} (hf : Filled cs 7 l cs') (hl : l.length ≤ 9) : FS cs' cl bR lf o m rb := by
  refine ⟨hf.size.trans h.size, ?_, ?_, ?_, ?_, ?_, ?_, ?_, ?_, ?_⟩ <;> rw [hf.rest _ (by omega)]
  · exact h.c0
  · exact h.c1
  · exact h.c3
  · exact h.c4
  · exact h.c6
  · exact h.c16
  · exact h.c17
  · exact h.c22
  · exact h.c23
end
end Go.Proofs.YtfdlbjibninakaaGreatDoor

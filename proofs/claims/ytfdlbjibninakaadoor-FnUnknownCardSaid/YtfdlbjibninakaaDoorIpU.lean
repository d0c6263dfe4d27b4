/- impl.plain: priority updates. -/
import Derived.Test.YtfdlbjibninakaaDoorIp1
import Derived.Outline
import Derived.Lib.ConvBytes
import Derived.RegionTactic
set_option linter.unusedVariables false
set_option linter.unusedSimpArgs false
namespace Go.Proofs.YtfdlbjibninakaaDoor
open Go.RowKit
theorem bytesRow_nums (b : List Int) (hb : Bs b) (cap j : Nat) (y : Int) (hj : b[j]? = some y) : (bytesRow (strOfNums b) cap)[j]? = some (.int .u8 y) := by
  obtain ⟨hlt, he⟩ := List.getElem?_eq_some_iff.1 hj
  have hy := hb y (List.mem_of_getElem? hj)
  have hs : j < (strOfNums b).data.size := by simpa [strOfNums] using hlt
  rw [bytesRow_at _ _ _ hs]
  congr 2
  have e : (strOfNums b).data[j] = UInt8.ofNat b[j].toNat := by simp [strOfNums]
  rw [e, he]
  simp
  omega
set_option maxRecDepth 10000 in
set_option maxHeartbeats 8000000 in
theorem plain_update {w : World} {h : Hd} {p : Nat} (hb : HdB h) (g : FrC w p h) {b : List Int} {pr : Int} (c5 : w.cell? ⟨p, 5, none⟩ = some (.string (strOfNums b))) (c6 : w.cell? ⟨p, 6, none⟩ = some (.int .u32 pr)) (hbs : Bs b) (hl : b.length ≤ 100000000) :
    Calls Tryd.prog 44 #[.iface 186 (.pointer (some ⟨p, 0, none⟩))] w (PlnEnd w { Fr.of h with pr := pr, data := b }) := by
  obtain ⟨t0, t1, f0, f1, l0, l1⟩ := hb
  have l2 : h.ln < 4294967296 := by omega
  have hm : (method 389 186 (.pointer (some ⟨p, 0, none⟩)) "Header").run Tryd.prog (w.alloc (.cells #[.int .i64 0, .int .i64 0, .int .u32 0, .int .i64 0, .slice none 0 0, .int .u32 0, .int .u32 0, .int .u32 0, .int .u32 0, .bool false, .bool false, .int .u32 0, .int .i64 0, .slice none 0 0] 42)) = _ := hd_PriorityUpdateFrame (g.below (((Kept.refl (· < w.heap.size) w).alloc _).below (Nat.le_refl _)))
  have tn_0 := tn_PriorityUpdateFrame_DataFrame
  have tn_1 := tn_PriorityUpdateFrame_HeadersFrame
  have tn_2 := tn_PriorityUpdateFrame_PriorityFrame
  have tn_3 := tn_PriorityUpdateFrame_RSTStreamFrame
  have tn_4 := tn_PriorityUpdateFrame_SettingsFrame
  have tn_5 := tn_PriorityUpdateFrame_PushPromiseFrame
  have tn_6 := tn_PriorityUpdateFrame_PingFrame
  have tn_7 := tn_PriorityUpdateFrame_GoAwayFrame
  have tn_8 := tn_PriorityUpdateFrame_WindowUpdateFrame
  have tn_9 := tn_PriorityUpdateFrame_ContinuationFrame
  have ty := ty_PriorityUpdateFrame
  have hcv := fun w' => run_bytes_of_string (P := Tryd.prog) w' 9 23 5 (strOfNums b) Tryd.underlying9 Tryd.underlying23 Tryd.underlying5
  rw [strOfNums_size] at hcv
  go_enter Tryd.func44, Tryd.ntmps44
  go_wp2_with (first
    | (go_at_call 150; refine (header_any _ true h.ty h.fl h.ln h.st _ rfl).mono ?_; rintro e w1 ⟨rfl, b1⟩)
    | (refine wpList_store_blk rfl _ _ _ rfl w1.heap.size rfl _ _ rfl 117 (blk_new _ _) rfl infoFH (by simp [Value.oneCell']) ?_; intro w2 hb2 k2; have e1 : w2.cell? ⟨w1.heap.size, 1, none⟩ = some (.int .u8 h.ty) := blk_cell hb2 1; have e2 : w2.cell? ⟨w1.heap.size, 2, none⟩ = some (.int .u8 h.fl) := blk_cell hb2 2; have e3 : w2.cell? ⟨w1.heap.size, 3, none⟩ = some (.int .u32 h.ln) := blk_cell hb2 3; have e4 : w2.cell? ⟨w1.heap.size, 4, none⟩ = some (.int .u32 h.st) := blk_cell hb2 4)
    | (refine wpList_store_blk rfl _ _ _ rfl w2.heap.size rfl (frX (Fr.of h) (.slice none 0 0) (.slice none 0 0)) _ rfl 42 (blk_new _ _) rfl infoFi (by simp [Value.oneCell', frX, frameC]) ?_; intro w3 hb3 k3; have S := PlS.mk' b1 k2 k3 hb3; clear e1 e2 e3 e4 hb2 k2 k3 b1 hm; have d5 := cell_below c5 S.B; have d6 := cell_below c6 S.B; have y4 : w3.cell? ⟨w2.heap.size, 4, none⟩ = some (.slice none 0 0) := blk_cell hb3 4; have z4 := blk_free hb3 4; have y5 : w3.cell? ⟨w2.heap.size, 5, none⟩ = some (.int .u32 0) := blk_cell hb3 5; have z5 := blk_free hb3 5; have lt1 : w2.heap.size < w3.heap.size := S.hi; have lt2 : p < w3.heap.size := World.block_lt_of_cell? w3 ⟨p, 6, none⟩ d6; have ne1 : w2.heap.size ≠ w3.heap.size := Nat.ne_of_lt lt1; have ne2 : w3.heap.size ≠ w2.heap.size := Nat.ne_of_gt lt1)
    | fail)
  go_region
  have hcap0 := grownCap_ge w3.drew b.length 0 5
  have hcap1 := grownCap_le_maxLen w3.drew b.length 0 5 (by unfold maxLen; omega)
  have hrow := bytesRow_nums b hbs (grownCap w3.drew b.length 0 5)
  clear hcv y4 y5 z4 z5 d5 d6
  generalize bytesRow (strOfNums b) (grownCap w3.drew b.length 0 5) = R at *
  generalize grownCap w3.drew b.length 0 5 = cap at *
  have hb4 : (((w3.setCell ⟨w2.heap.size, 4, none⟩ (.slice (some ⟨w3.heap.size, 0, none⟩) b.length cap)).setCell ⟨w2.heap.size, 5, none⟩ (.int .u32 pr)).alloc (.cells R 5 (R.size, R.size + 1))).drew.drew.heap[w2.heap.size]? = some (.cells (frX { Fr.of h with pr := pr, data := b } (.slice (some ⟨w3.heap.size, 0, none⟩) b.length cap) (.slice none 0 0)) 42 (0, 0)) := blk_drew (blk_drew (blk_alloc (blk_set (blk_set hb3 4 _) 5 _)))
  have hq4 : (((w3.setCell ⟨w2.heap.size, 4, none⟩ (.slice (some ⟨w3.heap.size, 0, none⟩) b.length cap)).setCell ⟨w2.heap.size, 5, none⟩ (.int .u32 pr)).alloc (.cells R 5 (R.size, R.size + 1))).drew.drew.heap[w.heap.size]? = some (.cells zF 42 (0, 0)) := blk_drew (blk_drew (blk_alloc (blk_set_other (blk_set_other S.q (Nat.ne_of_lt S.lo) _) (Nat.ne_of_lt S.lo) _)))
  have hB4 : Below w.heap.size w (((w3.setCell ⟨w2.heap.size, 4, none⟩ (.slice (some ⟨w3.heap.size, 0, none⟩) b.length cap)).setCell ⟨w2.heap.size, 5, none⟩ (.int .u32 pr)).alloc (.cells R 5 (R.size, R.size + 1))).drew.drew := (((Kept.ofBelow ((S.B.setCell (Nat.le_of_lt S.lo) _).setCell (Nat.le_of_lt S.lo) _)).alloc _).drew).drew |>.below (Nat.le_refl _)
  have hd4 : RdB (((w3.setCell ⟨w2.heap.size, 4, none⟩ (.slice (some ⟨w3.heap.size, 0, none⟩) b.length cap)).setCell ⟨w2.heap.size, 5, none⟩ (.int .u32 pr)).alloc (.cells R 5 (R.size, R.size + 1))).drew.drew (.slice (some ⟨w3.heap.size, 0, none⟩) b.length cap) b := by
    refine ⟨_, cap, rfl, hcap0, hcap1, fun j y hj => ⟨w3.heap.size, 0, rfl, ?_⟩⟩
    rw [Nat.zero_add]
    have hbn : (((w3.setCell ⟨w2.heap.size, 4, none⟩ (.slice (some ⟨w3.heap.size, 0, none⟩) b.length cap)).setCell ⟨w2.heap.size, 5, none⟩ (.int .u32 pr)).alloc (.cells R 5 (R.size, R.size + 1))).drew.drew.heap[w3.heap.size]? = some (.cells R 5 (R.size, R.size + 1)) := blk_drew (blk_drew (blk_at _ _ (by simp)))
    rw [cell_of_row _ _ _ _ _ _ hbn]
    exact hrow j y hj
  have H4 := Lib.hid hb4
  have Q4 := Lib.hid hq4
  have B4 := Lib.hid hB4
  have D4 := Lib.hid hd4
  have sl := S.lo
  have sh := S.hi
  clear hb4 hq4 hB4 hd4 hrow hcap0 hcap1 S hb3
  generalize (((w3.setCell ⟨w2.heap.size, 4, none⟩ (.slice (some ⟨w3.heap.size, 0, none⟩) b.length cap)).setCell ⟨w2.heap.size, 5, none⟩ (.int .u32 pr)).alloc (.cells R 5 (R.size, R.size + 1))).drew.drew = w4 at *
  go_wp2_with (first
    | fail
    | (refine wpList_load_blk rfl _ _ rfl w2.heap.size rfl (frX { Fr.of h with pr := pr, data := b } (.slice (some ⟨w3.heap.size, 0, none⟩) b.length cap) (.slice none 0 0)) 42 (H4.out) Tryd.underlying42 infoFi ?_)
    | (refine wpList_store_blk rfl _ _ _ rfl w.heap.size rfl (frX { Fr.of h with pr := pr, data := b } (.slice (some ⟨w3.heap.size, 0, none⟩) b.length cap) (.slice none 0 0)) _ rfl 42 (Q4.out) rfl infoFi (by simp [Value.oneCell', frX, frameC]) ?_; intro w5 hb5 k5))
  refine ret_blk rfl w.heap.size _ _ rfl hb5 Tryd.underlying42 infoFi rfl ?_
  exact pln_end B4.out k5 D4.out (.inr (Nat.lt_trans sl sh)) (RdP.nil _) (inK_nil _)
end Go.Proofs.YtfdlbjibninakaaDoor

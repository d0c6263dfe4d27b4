/- impl.plain: the kinds. -/
import Derived.Test.YtfdlbjibninakaaDoorIp1
import Derived.Outline
set_option linter.unusedVariables false
set_option linter.unusedSimpArgs false
namespace Go.Proofs.YtfdlbjibninakaaDoor
open Go.RowKit
set_option maxRecDepth 10000 in
set_option maxHeartbeats 8000000 in
theorem plain_headers {w : World} {h : Hd} {p : Nat} (hb : HdB h) (g : FrC w p h) {b : List Int} {a : Option Addr} {n c : Nat} {dep wt : Int} {ex : Bool} (c5 : w.cell? ⟨p, 5, none⟩ = some (.int .u32 dep)) (c6 : w.cell? ⟨p, 6, none⟩ = some (.bool ex)) (c7 : w.cell? ⟨p, 7, none⟩ = some (.int .u8 wt)) (c8 : w.cell? ⟨p, 8, none⟩ = some (.int .u8 0)) (c9 : w.cell? ⟨p, 9, none⟩ = some (.int .u8 0)) (wt0 : 0 ≤ wt) (wt1 : wt < 256) (c10 : w.cell? ⟨p, 10, none⟩ = some (.slice a n c)) (hv : RdB w (.slice a n c) b) (hl : b.length ≤ 100000000) :
    Calls Tryd.prog 44 #[.iface 160 (.pointer (some ⟨p, 0, none⟩))] w (PlnEnd w { Fr.of h with data := b, hp := bitOf h.fl 32, ex := ex, dep := dep, wt := wt }) := by
  obtain ⟨t0, t1, f0, f1, l0, l1⟩ := hb
  have l2 : h.ln < 4294967296 := by omega
  have hm : (method 389 160 (.pointer (some ⟨p, 0, none⟩)) "Header").run Tryd.prog (w.alloc (.cells #[.int .i64 0, .int .i64 0, .int .u32 0, .int .i64 0, .slice none 0 0, .int .u32 0, .int .u32 0, .int .u32 0, .int .u32 0, .bool false, .bool false, .int .u32 0, .int .i64 0, .slice none 0 0] 42)) = _ := hd_HeadersFrame (g.below (((Kept.refl (· < w.heap.size) w).alloc _).below (Nat.le_refl _)))
  have tn_0 := tn_HeadersFrame_DataFrame
  have ty := ty_HeadersFrame
  go_enter Tryd.func44, Tryd.ntmps44
  go_wp2_with (first
    | (go_at_call 150; refine (header_any _ true h.ty h.fl h.ln h.st _ rfl).mono ?_; rintro e w1 ⟨rfl, b1⟩)
    | (refine wpList_store_blk rfl _ _ _ rfl w1.heap.size rfl _ _ rfl 117 (blk_new _ _) rfl infoFH (by simp [Value.oneCell']) ?_; intro w2 hb2 k2; have e1 : w2.cell? ⟨w1.heap.size, 1, none⟩ = some (.int .u8 h.ty) := blk_cell hb2 1; have e2 : w2.cell? ⟨w1.heap.size, 2, none⟩ = some (.int .u8 h.fl) := blk_cell hb2 2; have e3 : w2.cell? ⟨w1.heap.size, 3, none⟩ = some (.int .u32 h.ln) := blk_cell hb2 3; have e4 : w2.cell? ⟨w1.heap.size, 4, none⟩ = some (.int .u32 h.st) := blk_cell hb2 4)
    | (refine wpList_store_blk rfl _ _ _ rfl w2.heap.size rfl (frX (Fr.of h) (.slice none 0 0) (.slice none 0 0)) _ rfl 42 (blk_new _ _) rfl infoFi (by simp [Value.oneCell', frX, frameC]) ?_; intro w3 hb3 k3; have S := PlS.mk' b1 k2 k3 hb3; clear e1 e2 e3 e4 hb2 k2 k3 b1 hm)
    | (go_at_call 76; refine (acc_HeadersFrame (g.below S.B).c0 (cell_below c10 S.B)).mono ?_; rintro e w' ⟨rfl, rfl⟩)
    | (go_at_call 74; refine (clone_any _ b _ (hv.below S.B) hl).mono ?_; rintro e w4 ⟨r, rfl, b4, o4, f4⟩; obtain ⟨ra, rc, rfl, -, -⟩ := own_shape o4; have hb4 := blk_below hb3 b4; have y4 : w4.cell? ⟨w2.heap.size, 4, none⟩ = some (.slice none 0 0) := blk_cell hb4 4; have z4 := blk_free hb4 4; have y9 : w4.cell? ⟨w2.heap.size, 9, none⟩ = some (.bool false) := blk_cell hb4 9; have z9 := blk_free hb4 9; have hpo : p ≠ w2.heap.size := Nat.ne_of_lt (Nat.lt_trans (World.block_lt_of_cell? w ⟨p, 0, none⟩ g.c0) S.lo))
    | (go_at_call 77; refine (hasPrio_any f0 f1 ((g.below S.B).below b4).c2).mono ?_; rintro e w' ⟨rfl, rfl⟩)
    | (refine wpList_load_at rfl 134 _ rfl p 5 rfl #[.int .u32 dep, .bool ex, .int .u8 wt, .int .u8 0, .int .u8 0] (blk_five (cs2 hpo (cell_below (cell_below c5 S.B) b4)) (cs2 hpo (cell_below (cell_below c6 S.B) b4)) (cs2 hpo (cell_below (cell_below c7 S.B) b4)) (cs2 hpo (cell_below (cell_below c8 S.B) b4)) (cs2 hpo (cell_below (cell_below c9 S.B) b4))) Tryd.underlying134 infoPP ?_)
    | (go_at_call 78; refine (prior_any (x := { Fr.of h with data := b, hp := bitOf h.fl 32 }) (dv := .slice ra b.length rc) (sv := .slice none 0 0) (blk_set (blk_set hb4 4 _) 9 _) dep wt ex wt0 wt1).mono ?_; rintro e w6 ⟨rfl, hb6, k6⟩)
    | (refine wpList_load_blk rfl _ _ rfl w2.heap.size rfl (frX { Fr.of h with data := b, hp := bitOf h.fl 32, ex := ex, dep := dep, wt := wt } (.slice ra b.length rc) (.slice none 0 0)) 42 (hb6) Tryd.underlying42 infoFi ?_)
    | (refine wpList_store_blk rfl _ _ _ rfl w.heap.size rfl (frX { Fr.of h with data := b, hp := bitOf h.fl 32, ex := ex, dep := dep, wt := wt } (.slice ra b.length rc) (.slice none 0 0)) _ rfl 42 (k6.at (Nat.ne_of_lt S.lo) (blk_set_other (blk_set_other (blk_below S.q b4) (Nat.ne_of_lt S.lo) _) (Nat.ne_of_lt S.lo) _)) rfl infoFi (by simp [Value.oneCell', frX, frameC]) ?_; intro w5 hb5 k5))
  refine ret_blk rfl w.heap.size _ _ rfl hb5 Tryd.underlying42 infoFi rfl ?_
  have ne : (Value.slice ra b.length rc).ownBlock ≠ some w2.heap.size := fun e => by have := f4 _ e; have := S.hi; omega
  exact pln_end ((Kept.ofBelow (((Below.step S.B b4).setCell (Nat.le_of_lt S.lo) _).setCell (Nat.le_of_lt S.lo) _)).trans (k6.mono fun k h _ => by have := S.lo; omega) |>.below (Nat.le_refl _)) k5
    (rd_of_row (own_kept (own_set (own_set o4 ne _) ne _) k6 fun g hg e => ne (e ▸ hg))) (fresh_in f4 fun k hk => by have := S.hi; have := S.lo; omega) (RdP.nil _) (inK_nil _)
end Go.Proofs.YtfdlbjibninakaaDoor

/- impl.plain: the kinds. -/
import Derived.Test.YtfdlbjibninakaaGreatDoorIp1
import Derived.Outline
set_option linter.unusedVariables false
set_option linter.unusedSimpArgs false
namespace Go.Proofs.YtfdlbjibninakaaGreatDoor
set_option maxRecDepth 10000
set_option maxHeartbeats 8000000
open Go.RowKit
theorem plain_data {w:World} {h:Hd} {p:Nat} (hb:HdB h) (g:FrC w p h) {b:List Int} {a:Option Addr} {n c:Nat} (c5:w.cell? ⟨p,5,none⟩=some (.slice a n c)) (hv:RdB w (.slice a n c) b) (hl:b.length≤100000000) :
   Calls Tryz.prog 30 #[.iface 126 (.pointer (some ⟨p,0,none⟩))] w (PlnEnd w { Fr.of h with data:=b }):=by
 obtain ⟨t0,t1,f0,f1,l0,l1⟩:=hb
 have l2:h.ln<4294967296:=by omega
 have hm:(method 391 126 (.pointer (some ⟨p,0,none⟩)) "Header").run Tryz.prog (w.alloc (.cells #[.int .i64 0,.int .i64 0,.int .u32 0,.int .i64 0,.slice none 0 0,.int .u32 0,.int .u32 0,.int .u32 0,.int .u32 0,.bool false,.bool false,.int .u32 0,.int .i64 0,.slice none 0 0] 63))=_:=hd_DataFrame (g.below (((Kept.refl (· < w.heap.size) w).alloc _).below (Nat.le_refl _)))
 have ty:=ty_DataFrame
 go_enter Tryz.func30,Tryz.ntmps30
 go_wp2_with (first
   | (go_at_call 149;refine (header_any _ true h.ty h.fl h.ln h.st _ rfl).mono ?_;rintro e w1 ⟨rfl,b1⟩)
   | (refine wpList_store_blk rfl _ _ _ rfl w1.heap.size rfl _ _ rfl 113 (blk_new _ _) rfl infoFH (by simp [Value.oneCell']) ?_;intro w2 hb2 k2;have e1:w2.cell? ⟨w1.heap.size,1,none⟩=some (.int .u8 h.ty):=blk_cell hb2 1;have e2:w2.cell? ⟨w1.heap.size,2,none⟩=some (.int .u8 h.fl):=blk_cell hb2 2;have e3:w2.cell? ⟨w1.heap.size,3,none⟩=some (.int .u32 h.ln):=blk_cell hb2 3;have e4:w2.cell? ⟨w1.heap.size,4,none⟩=some (.int .u32 h.st):=blk_cell hb2 4)
   | (refine wpList_store_blk rfl _ _ _ rfl w2.heap.size rfl (frX (Fr.of h) (.slice none 0 0) (.slice none 0 0)) _ rfl 63 (blk_new _ _) rfl infoFi (by simp [Value.oneCell',frX,frameC]) ?_;intro w3 hb3 k3;have S:=PlS.mk' b1 k2 k3 hb3;clear e1 e2 e3 e4 hb2 k2 k3 b1 hm)
   | (go_at_call 51;refine (acc_DataFrame (g.below S.B).c0 (cell_below c5 S.B)).mono ?_;rintro e w' ⟨rfl,rfl⟩)
   | (go_at_call 50;refine (clone_any _ b _ (hv.below S.B) hl).mono ?_;rintro e w4 ⟨r,rfl,b4,o4,f4⟩;obtain ⟨ra,rc,rfl,-,-⟩:=own_shape o4;have hb4:=blk_below hb3 b4;have y4:w4.cell? ⟨w2.heap.size,4,none⟩=some (.slice none 0 0):=blk_cell hb4 4;have z4:=blk_free hb4 4)
   | (refine wpList_load_blk rfl _ _ rfl w2.heap.size rfl (frX { Fr.of h with data:=b } (.slice ra b.length rc) (.slice none 0 0)) 63 (blk_set hb4 4 _) Tryz.underlying63 infoFi ?_)
   | (refine wpList_store_blk rfl _ _ _ rfl w.heap.size rfl (frX { Fr.of h with data:=b } (.slice ra b.length rc) (.slice none 0 0)) _ rfl 63 (blk_set_other (blk_below S.q b4) (Nat.ne_of_lt S.lo) _) rfl infoFi (by simp [Value.oneCell',frX,frameC]) ?_;intro w5 hb5 k5))
 refine ret_blk rfl w.heap.size _ _ rfl hb5 Tryz.underlying63 infoFi rfl ?_
 have ne:(Value.slice ra b.length rc).ownBlock≠some w2.heap.size:=fun e=>by have:=f4 _ e;have:=S.hi;omega
 exact pln_end ((Below.step S.B b4).setCell (Nat.le_of_lt S.lo) _) k5 (rd_of_row (own_set o4 ne _)) (fresh_in f4 fun k hk=>by have:=S.hi;have:=S.lo;omega) (RdP.nil _) (inK_nil _)
theorem plain_cont {w:World} {h:Hd} {p:Nat} (hb:HdB h) (g:FrC w p h) {b:List Int} {a:Option Addr} {n c:Nat} (c5:w.cell? ⟨p,5,none⟩=some (.slice a n c)) (hv:RdB w (.slice a n c) b) (hl:b.length≤100000000) :
   Calls Tryz.prog 30 #[.iface 162 (.pointer (some ⟨p,0,none⟩))] w (PlnEnd w { Fr.of h with data:=b }):=by
 obtain ⟨t0,t1,f0,f1,l0,l1⟩:=hb
 have l2:h.ln<4294967296:=by omega
 have hm:(method 391 162 (.pointer (some ⟨p,0,none⟩)) "Header").run Tryz.prog (w.alloc (.cells #[.int .i64 0,.int .i64 0,.int .u32 0,.int .i64 0,.slice none 0 0,.int .u32 0,.int .u32 0,.int .u32 0,.int .u32 0,.bool false,.bool false,.int .u32 0,.int .i64 0,.slice none 0 0] 63))=_:=hd_ContinuationFrame (g.below (((Kept.refl (· < w.heap.size) w).alloc _).below (Nat.le_refl _)))
 have tn_0:=tn_ContinuationFrame_DataFrame
 have tn_1:=tn_ContinuationFrame_HeadersFrame
 have tn_2:=tn_ContinuationFrame_PriorityFrame
 have tn_3:=tn_ContinuationFrame_RSTStreamFrame
 have tn_4:=tn_ContinuationFrame_SettingsFrame
 have tn_5:=tn_ContinuationFrame_PushPromiseFrame
 have tn_6:=tn_ContinuationFrame_PingFrame
 have tn_7:=tn_ContinuationFrame_GoAwayFrame
 have tn_8:=tn_ContinuationFrame_WindowUpdateFrame
 have ty:=ty_ContinuationFrame
 go_enter Tryz.func30,Tryz.ntmps30
 go_wp2_with (first
   | (go_at_call 149;refine (header_any _ true h.ty h.fl h.ln h.st _ rfl).mono ?_;rintro e w1 ⟨rfl,b1⟩)
   | (refine wpList_store_blk rfl _ _ _ rfl w1.heap.size rfl _ _ rfl 113 (blk_new _ _) rfl infoFH (by simp [Value.oneCell']) ?_;intro w2 hb2 k2;have e1:w2.cell? ⟨w1.heap.size,1,none⟩=some (.int .u8 h.ty):=blk_cell hb2 1;have e2:w2.cell? ⟨w1.heap.size,2,none⟩=some (.int .u8 h.fl):=blk_cell hb2 2;have e3:w2.cell? ⟨w1.heap.size,3,none⟩=some (.int .u32 h.ln):=blk_cell hb2 3;have e4:w2.cell? ⟨w1.heap.size,4,none⟩=some (.int .u32 h.st):=blk_cell hb2 4)
   | (refine wpList_store_blk rfl _ _ _ rfl w2.heap.size rfl (frX (Fr.of h) (.slice none 0 0) (.slice none 0 0)) _ rfl 63 (blk_new _ _) rfl infoFi (by simp [Value.oneCell',frX,frameC]) ?_;intro w3 hb3 k3;have S:=PlS.mk' b1 k2 k3 hb3;clear e1 e2 e3 e4 hb2 k2 k3 b1 hm)
   | (go_at_call 59;refine (acc_ContinuationFrame (g.below S.B).c0 (cell_below c5 S.B)).mono ?_;rintro e w' ⟨rfl,rfl⟩)
   | (go_at_call 50;refine (clone_any _ b _ (hv.below S.B) hl).mono ?_;rintro e w4 ⟨r,rfl,b4,o4,f4⟩;obtain ⟨ra,rc,rfl,-,-⟩:=own_shape o4;have hb4:=blk_below hb3 b4;have y4:w4.cell? ⟨w2.heap.size,4,none⟩=some (.slice none 0 0):=blk_cell hb4 4;have z4:=blk_free hb4 4)
   | (refine wpList_load_blk rfl _ _ rfl w2.heap.size rfl (frX { Fr.of h with data:=b } (.slice ra b.length rc) (.slice none 0 0)) 63 (blk_set hb4 4 _) Tryz.underlying63 infoFi ?_)
   | (refine wpList_store_blk rfl _ _ _ rfl w.heap.size rfl (frX { Fr.of h with data:=b } (.slice ra b.length rc) (.slice none 0 0)) _ rfl 63 (blk_set_other (blk_below S.q b4) (Nat.ne_of_lt S.lo) _) rfl infoFi (by simp [Value.oneCell',frX,frameC]) ?_;intro w5 hb5 k5))
 refine ret_blk rfl w.heap.size _ _ rfl hb5 Tryz.underlying63 infoFi rfl ?_
 have ne:(Value.slice ra b.length rc).ownBlock≠some w2.heap.size:=fun e=>by have:=f4 _ e;have:=S.hi;omega
 exact pln_end ((Below.step S.B b4).setCell (Nat.le_of_lt S.lo) _) k5 (rd_of_row (own_set o4 ne _)) (fresh_in f4 fun k hk=>by have:=S.hi;have:=S.lo;omega) (RdP.nil _) (inK_nil _)
theorem plain_unknown {w:World} {h:Hd} {p:Nat} (hb:HdB h) (g:FrC w p h) {b:List Int} {a:Option Addr} {n c:Nat} (c5:w.cell? ⟨p,5,none⟩=some (.slice a n c)) (hv:RdB w (.slice a n c) b) (hl:b.length≤100000000) :
   Calls Tryz.prog 30 #[.iface 166 (.pointer (some ⟨p,0,none⟩))] w (PlnEnd w { Fr.of h with data:=b }):=by
 obtain ⟨t0,t1,f0,f1,l0,l1⟩:=hb
 have l2:h.ln<4294967296:=by omega
 have hm:(method 391 166 (.pointer (some ⟨p,0,none⟩)) "Header").run Tryz.prog (w.alloc (.cells #[.int .i64 0,.int .i64 0,.int .u32 0,.int .i64 0,.slice none 0 0,.int .u32 0,.int .u32 0,.int .u32 0,.int .u32 0,.bool false,.bool false,.int .u32 0,.int .i64 0,.slice none 0 0] 63))=_:=hd_UnknownFrame (g.below (((Kept.refl (· < w.heap.size) w).alloc _).below (Nat.le_refl _)))
 have tn_0:=tn_UnknownFrame_DataFrame
 have tn_1:=tn_UnknownFrame_HeadersFrame
 have tn_2:=tn_UnknownFrame_PriorityFrame
 have tn_3:=tn_UnknownFrame_RSTStreamFrame
 have tn_4:=tn_UnknownFrame_SettingsFrame
 have tn_5:=tn_UnknownFrame_PushPromiseFrame
 have tn_6:=tn_UnknownFrame_PingFrame
 have tn_7:=tn_UnknownFrame_GoAwayFrame
 have tn_8:=tn_UnknownFrame_WindowUpdateFrame
 have tn_9:=tn_UnknownFrame_ContinuationFrame
 have tn_10:=tn_UnknownFrame_PriorityUpdateFrame
 have ty:=ty_UnknownFrame
 go_enter Tryz.func30,Tryz.ntmps30
 go_wp2_with (first
   | (go_at_call 149;refine (header_any _ true h.ty h.fl h.ln h.st _ rfl).mono ?_;rintro e w1 ⟨rfl,b1⟩)
   | (refine wpList_store_blk rfl _ _ _ rfl w1.heap.size rfl _ _ rfl 113 (blk_new _ _) rfl infoFH (by simp [Value.oneCell']) ?_;intro w2 hb2 k2;have e1:w2.cell? ⟨w1.heap.size,1,none⟩=some (.int .u8 h.ty):=blk_cell hb2 1;have e2:w2.cell? ⟨w1.heap.size,2,none⟩=some (.int .u8 h.fl):=blk_cell hb2 2;have e3:w2.cell? ⟨w1.heap.size,3,none⟩=some (.int .u32 h.ln):=blk_cell hb2 3;have e4:w2.cell? ⟨w1.heap.size,4,none⟩=some (.int .u32 h.st):=blk_cell hb2 4)
   | (refine wpList_store_blk rfl _ _ _ rfl w2.heap.size rfl (frX (Fr.of h) (.slice none 0 0) (.slice none 0 0)) _ rfl 63 (blk_new _ _) rfl infoFi (by simp [Value.oneCell',frX,frameC]) ?_;intro w3 hb3 k3;have S:=PlS.mk' b1 k2 k3 hb3;clear e1 e2 e3 e4 hb2 k2 k3 b1 hm)
   | (go_at_call 60;refine (acc_UnknownFrame (g.below S.B).c0 (cell_below c5 S.B)).mono ?_;rintro e w' ⟨rfl,rfl⟩)
   | (go_at_call 50;refine (clone_any _ b _ (hv.below S.B) hl).mono ?_;rintro e w4 ⟨r,rfl,b4,o4,f4⟩;obtain ⟨ra,rc,rfl,-,-⟩:=own_shape o4;have hb4:=blk_below hb3 b4;have y4:w4.cell? ⟨w2.heap.size,4,none⟩=some (.slice none 0 0):=blk_cell hb4 4;have z4:=blk_free hb4 4)
   | (refine wpList_load_blk rfl _ _ rfl w2.heap.size rfl (frX { Fr.of h with data:=b } (.slice ra b.length rc) (.slice none 0 0)) 63 (blk_set hb4 4 _) Tryz.underlying63 infoFi ?_)
   | (refine wpList_store_blk rfl _ _ _ rfl w.heap.size rfl (frX { Fr.of h with data:=b } (.slice ra b.length rc) (.slice none 0 0)) _ rfl 63 (blk_set_other (blk_below S.q b4) (Nat.ne_of_lt S.lo) _) rfl infoFi (by simp [Value.oneCell',frX,frameC]) ?_;intro w5 hb5 k5))
 refine ret_blk rfl w.heap.size _ _ rfl hb5 Tryz.underlying63 infoFi rfl ?_
 have ne:(Value.slice ra b.length rc).ownBlock≠some w2.heap.size:=fun e=>by have:=f4 _ e;have:=S.hi;omega
 exact pln_end ((Below.step S.B b4).setCell (Nat.le_of_lt S.lo) _) k5 (rd_of_row (own_set o4 ne _)) (fresh_in f4 fun k hk=>by have:=S.hi;have:=S.lo;omega) (RdP.nil _) (inK_nil _)
theorem plain_rst {w:World} {h:Hd} {p:Nat} (hb:HdB h) (g:FrC w p h) {u:Int} (c5:w.cell? ⟨p,5,none⟩=some (.int .u32 u)) :
   Calls Tryz.prog 30 #[.iface 139 (.pointer (some ⟨p,0,none⟩))] w (PlnEnd w { Fr.of h with co:=u }):=by
 obtain ⟨t0,t1,f0,f1,l0,l1⟩:=hb
 have l2:h.ln<4294967296:=by omega
 have hm:(method 391 139 (.pointer (some ⟨p,0,none⟩)) "Header").run Tryz.prog (w.alloc (.cells #[.int .i64 0,.int .i64 0,.int .u32 0,.int .i64 0,.slice none 0 0,.int .u32 0,.int .u32 0,.int .u32 0,.int .u32 0,.bool false,.bool false,.int .u32 0,.int .i64 0,.slice none 0 0] 63))=_:=hd_RSTStreamFrame (g.below (((Kept.refl (· < w.heap.size) w).alloc _).below (Nat.le_refl _)))
 have tn_0:=tn_RSTStreamFrame_DataFrame
 have tn_1:=tn_RSTStreamFrame_HeadersFrame
 have tn_2:=tn_RSTStreamFrame_PriorityFrame
 have ty:=ty_RSTStreamFrame
 go_enter Tryz.func30,Tryz.ntmps30
 go_wp2_with (first
   | (go_at_call 149;refine (header_any _ true h.ty h.fl h.ln h.st _ rfl).mono ?_;rintro e w1 ⟨rfl,b1⟩)
   | (refine wpList_store_blk rfl _ _ _ rfl w1.heap.size rfl _ _ rfl 113 (blk_new _ _) rfl infoFH (by simp [Value.oneCell']) ?_;intro w2 hb2 k2;have e1:w2.cell? ⟨w1.heap.size,1,none⟩=some (.int .u8 h.ty):=blk_cell hb2 1;have e2:w2.cell? ⟨w1.heap.size,2,none⟩=some (.int .u8 h.fl):=blk_cell hb2 2;have e3:w2.cell? ⟨w1.heap.size,3,none⟩=some (.int .u32 h.ln):=blk_cell hb2 3;have e4:w2.cell? ⟨w1.heap.size,4,none⟩=some (.int .u32 h.st):=blk_cell hb2 4)
   | (refine wpList_store_blk rfl _ _ _ rfl w2.heap.size rfl (frX (Fr.of h) (.slice none 0 0) (.slice none 0 0)) _ rfl 63 (blk_new _ _) rfl infoFi (by simp [Value.oneCell',frX,frameC]) ?_;intro w3 hb3 k3;have S:=PlS.mk' b1 k2 k3 hb3;clear e1 e2 e3 e4 hb2 k2 k3 b1 hm;have d5:=cell_below c5 S.B;have y4:w3.cell? ⟨w2.heap.size,7,none⟩=some (.int .u32 0):=blk_cell hb3 7;have z4:=blk_free hb3 7)
   | fail
   | (refine wpList_load_blk rfl _ _ rfl w2.heap.size rfl (frX { Fr.of h with co:=u } (.slice none 0 0) (.slice none 0 0)) 63 (blk_set hb3 7 _) Tryz.underlying63 infoFi ?_)
   | (refine wpList_store_blk rfl _ _ _ rfl w.heap.size rfl (frX { Fr.of h with co:=u } (.slice none 0 0) (.slice none 0 0)) _ rfl 63 (blk_set_other S.q (Nat.ne_of_lt S.lo) _) rfl infoFi (by simp [Value.oneCell',frX,frameC]) ?_;intro w5 hb5 k5))
 refine ret_blk rfl w.heap.size _ _ rfl hb5 Tryz.underlying63 infoFi rfl ?_
 exact pln_end (S.B.setCell (Nat.le_of_lt S.lo) _) k5 (rdB_nil _) (inK_nil _) (RdP.nil _) (inK_nil _)
theorem plain_window {w:World} {h:Hd} {p:Nat} (hb:HdB h) (g:FrC w p h) {u:Int} (c5:w.cell? ⟨p,5,none⟩=some (.int .u32 u)) :
   Calls Tryz.prog 30 #[.iface 159 (.pointer (some ⟨p,0,none⟩))] w (PlnEnd w { Fr.of h with inc:=u }):=by
 obtain ⟨t0,t1,f0,f1,l0,l1⟩:=hb
 have l2:h.ln<4294967296:=by omega
 have hm:(method 391 159 (.pointer (some ⟨p,0,none⟩)) "Header").run Tryz.prog (w.alloc (.cells #[.int .i64 0,.int .i64 0,.int .u32 0,.int .i64 0,.slice none 0 0,.int .u32 0,.int .u32 0,.int .u32 0,.int .u32 0,.bool false,.bool false,.int .u32 0,.int .i64 0,.slice none 0 0] 63))=_:=hd_WindowUpdateFrame (g.below (((Kept.refl (· < w.heap.size) w).alloc _).below (Nat.le_refl _)))
 have tn_0:=tn_WindowUpdateFrame_DataFrame
 have tn_1:=tn_WindowUpdateFrame_HeadersFrame
 have tn_2:=tn_WindowUpdateFrame_PriorityFrame
 have tn_3:=tn_WindowUpdateFrame_RSTStreamFrame
 have tn_4:=tn_WindowUpdateFrame_SettingsFrame
 have tn_5:=tn_WindowUpdateFrame_PushPromiseFrame
 have tn_6:=tn_WindowUpdateFrame_PingFrame
 have tn_7:=tn_WindowUpdateFrame_GoAwayFrame
 have ty:=ty_WindowUpdateFrame
 go_enter Tryz.func30,Tryz.ntmps30
 go_wp2_with (first
   | (go_at_call 149;refine (header_any _ true h.ty h.fl h.ln h.st _ rfl).mono ?_;rintro e w1 ⟨rfl,b1⟩)
   | (refine wpList_store_blk rfl _ _ _ rfl w1.heap.size rfl _ _ rfl 113 (blk_new _ _) rfl infoFH (by simp [Value.oneCell']) ?_;intro w2 hb2 k2;have e1:w2.cell? ⟨w1.heap.size,1,none⟩=some (.int .u8 h.ty):=blk_cell hb2 1;have e2:w2.cell? ⟨w1.heap.size,2,none⟩=some (.int .u8 h.fl):=blk_cell hb2 2;have e3:w2.cell? ⟨w1.heap.size,3,none⟩=some (.int .u32 h.ln):=blk_cell hb2 3;have e4:w2.cell? ⟨w1.heap.size,4,none⟩=some (.int .u32 h.st):=blk_cell hb2 4)
   | (refine wpList_store_blk rfl _ _ _ rfl w2.heap.size rfl (frX (Fr.of h) (.slice none 0 0) (.slice none 0 0)) _ rfl 63 (blk_new _ _) rfl infoFi (by simp [Value.oneCell',frX,frameC]) ?_;intro w3 hb3 k3;have S:=PlS.mk' b1 k2 k3 hb3;clear e1 e2 e3 e4 hb2 k2 k3 b1 hm;have d5:=cell_below c5 S.B;have y4:w3.cell? ⟨w2.heap.size,8,none⟩=some (.int .u32 0):=blk_cell hb3 8;have z4:=blk_free hb3 8)
   | fail
   | (refine wpList_load_blk rfl _ _ rfl w2.heap.size rfl (frX { Fr.of h with inc:=u } (.slice none 0 0) (.slice none 0 0)) 63 (blk_set hb3 8 _) Tryz.underlying63 infoFi ?_)
   | (refine wpList_store_blk rfl _ _ _ rfl w.heap.size rfl (frX { Fr.of h with inc:=u } (.slice none 0 0) (.slice none 0 0)) _ rfl 63 (blk_set_other S.q (Nat.ne_of_lt S.lo) _) rfl infoFi (by simp [Value.oneCell',frX,frameC]) ?_;intro w5 hb5 k5))
 refine ret_blk rfl w.heap.size _ _ rfl hb5 Tryz.underlying63 infoFi rfl ?_
 exact pln_end (S.B.setCell (Nat.le_of_lt S.lo) _) k5 (rdB_nil _) (inK_nil _) (RdP.nil _) (inK_nil _)
theorem plain_priority {w:World} {h:Hd} {p:Nat} (hb:HdB h) (g:FrC w p h) {dep wt:Int} {ex:Bool} (c5:w.cell? ⟨p,5,none⟩=some (.int .u32 dep)) (c6:w.cell? ⟨p,6,none⟩=some (.bool ex)) (c7:w.cell? ⟨p,7,none⟩=some (.int .u8 wt)) (c8:w.cell? ⟨p,8,none⟩=some (.int .u8 0)) (c9:w.cell? ⟨p,9,none⟩=some (.int .u8 0)) (wt0:0≤wt) (wt1:wt<256) :
   Calls Tryz.prog 30 #[.iface 136 (.pointer (some ⟨p,0,none⟩))] w (PlnEnd w { Fr.of h with ex:=ex,dep:=dep,wt:=wt }):=by
 obtain ⟨t0,t1,f0,f1,l0,l1⟩:=hb
 have l2:h.ln<4294967296:=by omega
 have hm:(method 391 136 (.pointer (some ⟨p,0,none⟩)) "Header").run Tryz.prog (w.alloc (.cells #[.int .i64 0,.int .i64 0,.int .u32 0,.int .i64 0,.slice none 0 0,.int .u32 0,.int .u32 0,.int .u32 0,.int .u32 0,.bool false,.bool false,.int .u32 0,.int .i64 0,.slice none 0 0] 63))=_:=hd_PriorityFrame (g.below (((Kept.refl (· < w.heap.size) w).alloc _).below (Nat.le_refl _)))
 have tn_0:=tn_PriorityFrame_DataFrame
 have tn_1:=tn_PriorityFrame_HeadersFrame
 have ty:=ty_PriorityFrame
 go_enter Tryz.func30,Tryz.ntmps30
 go_wp2_with (first
   | (go_at_call 149;refine (header_any _ true h.ty h.fl h.ln h.st _ rfl).mono ?_;rintro e w1 ⟨rfl,b1⟩)
   | (refine wpList_store_blk rfl _ _ _ rfl w1.heap.size rfl _ _ rfl 113 (blk_new _ _) rfl infoFH (by simp [Value.oneCell']) ?_;intro w2 hb2 k2;have e1:w2.cell? ⟨w1.heap.size,1,none⟩=some (.int .u8 h.ty):=blk_cell hb2 1;have e2:w2.cell? ⟨w1.heap.size,2,none⟩=some (.int .u8 h.fl):=blk_cell hb2 2;have e3:w2.cell? ⟨w1.heap.size,3,none⟩=some (.int .u32 h.ln):=blk_cell hb2 3;have e4:w2.cell? ⟨w1.heap.size,4,none⟩=some (.int .u32 h.st):=blk_cell hb2 4)
   | (refine wpList_store_blk rfl _ _ _ rfl w2.heap.size rfl (frX (Fr.of h) (.slice none 0 0) (.slice none 0 0)) _ rfl 63 (blk_new _ _) rfl infoFi (by simp [Value.oneCell',frX,frameC]) ?_;intro w3 hb3 k3;have S:=PlS.mk' b1 k2 k3 hb3;clear e1 e2 e3 e4 hb2 k2 k3 b1 hm)
   | (refine wpList_load_at rfl 133 _ rfl p 5 rfl #[.int .u32 dep,.bool ex,.int .u8 wt,.int .u8 0,.int .u8 0] (blk_five (cell_below c5 S.B) (cell_below c6 S.B) (cell_below c7 S.B) (cell_below c8 S.B) (cell_below c9 S.B)) Tryz.underlying133 infoPP ?_)
   | (go_at_call 54;refine (prior_any hb3 dep wt ex wt0 wt1).mono ?_;rintro e w4 ⟨rfl,hb4,k4⟩)
   | (refine wpList_load_blk rfl _ _ rfl w2.heap.size rfl (frX { Fr.of h with ex:=ex,dep:=dep,wt:=wt } (.slice none 0 0) (.slice none 0 0)) 63 (hb4) Tryz.underlying63 infoFi ?_)
   | (refine wpList_store_blk rfl _ _ _ rfl w.heap.size rfl (frX { Fr.of h with ex:=ex,dep:=dep,wt:=wt } (.slice none 0 0) (.slice none 0 0)) _ rfl 63 (k4.at (Nat.ne_of_lt S.lo) S.q) rfl infoFi (by simp [Value.oneCell',frX,frameC]) ?_;intro w5 hb5 k5))
 refine ret_blk rfl w.heap.size _ _ rfl hb5 Tryz.underlying63 infoFi rfl ?_
 exact pln_end ((Kept.ofBelow S.B).trans (k4.mono fun k h _=>by have:=S.lo;omega) |>.below (Nat.le_refl _)) k5 (rdB_nil _) (inK_nil _) (RdP.nil _) (inK_nil _)
end Go.Proofs.YtfdlbjibninakaaGreatDoor

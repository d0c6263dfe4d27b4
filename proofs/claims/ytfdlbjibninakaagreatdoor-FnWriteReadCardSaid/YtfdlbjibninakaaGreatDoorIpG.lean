/- impl.plain: goaway. -/
import Derived.Test.YtfdlbjibninakaaGreatDoorIp1
import Derived.Outline
import Derived.Deep.RegionHeld3
set_option linter.unusedVariables false
set_option linter.unusedSimpArgs false
namespace Go.Proofs.YtfdlbjibninakaaGreatDoor
set_option maxRecDepth 10000
set_option maxHeartbeats 8000000
open Go.RowKit
theorem plain_ping {w:World} {h:Hd} {p:Nat} (hb:HdB h) (g:FrC w p h) {b:List Int} (hd:∀j x,b[j]? = some x→w.cell? ⟨p,5+j,none⟩=some (.int .u8 x)) (hl:b.length=8) :
   Calls Tryz.prog 30 #[.iface 152 (.pointer (some ⟨p,0,none⟩))] w (PlnEnd w { Fr.of h with data:=b }):=by
 obtain ⟨t0,t1,f0,f1,l0,l1⟩:=hb
 have l2:h.ln<4294967296:=by omega
 have hm:(method 391 152 (.pointer (some ⟨p,0,none⟩)) "Header").run Tryz.prog (w.alloc (.cells #[.int .i64 0,.int .i64 0,.int .u32 0,.int .i64 0,.slice none 0 0,.int .u32 0,.int .u32 0,.int .u32 0,.int .u32 0,.bool false,.bool false,.int .u32 0,.int .i64 0,.slice none 0 0] 63))=_:=hd_PingFrame (g.below (((Kept.refl (· < w.heap.size) w).alloc _).below (Nat.le_refl _)))
 have tn_0:=tn_PingFrame_DataFrame
 have tn_1:=tn_PingFrame_HeadersFrame
 have tn_2:=tn_PingFrame_PriorityFrame
 have tn_3:=tn_PingFrame_RSTStreamFrame
 have tn_4:=tn_PingFrame_SettingsFrame
 have tn_5:=tn_PingFrame_PushPromiseFrame
 have ty:=ty_PingFrame
 have hv:RdB w (.slice (some ⟨p,5,none⟩) 8 8) b:=⟨_,8,by rw [hl],by omega,by unfold maxLen;omega,fun j x hj=>⟨p,5,rfl,hd j x hj⟩⟩
 have HL:=Lib.hid hl
 clear hl hd
 go_enter Tryz.func30,Tryz.ntmps30
 go_wp2_with (first
   | (go_at_call 149;refine (header_any _ true h.ty h.fl h.ln h.st _ rfl).mono ?_;rintro e w1 ⟨rfl,b1⟩)
   | (refine wpList_store_blk rfl _ _ _ rfl w1.heap.size rfl _ _ rfl 113 (blk_new _ _) rfl infoFH (by simp [Value.oneCell']) ?_;intro w2 hb2 k2;have e1:w2.cell? ⟨w1.heap.size,1,none⟩=some (.int .u8 h.ty):=blk_cell hb2 1;have e2:w2.cell? ⟨w1.heap.size,2,none⟩=some (.int .u8 h.fl):=blk_cell hb2 2;have e3:w2.cell? ⟨w1.heap.size,3,none⟩=some (.int .u32 h.ln):=blk_cell hb2 3;have e4:w2.cell? ⟨w1.heap.size,4,none⟩=some (.int .u32 h.st):=blk_cell hb2 4)
   | (refine wpList_store_blk rfl _ _ _ rfl w2.heap.size rfl (frX (Fr.of h) (.slice none 0 0) (.slice none 0 0)) _ rfl 63 (blk_new _ _) rfl infoFi (by simp [Value.oneCell',frX,frameC]) ?_;intro w3 hb3 k3;have S:=PlS.mk' b1 k2 k3 hb3;clear e1 e2 e3 e4 hb2 k2 k3 b1 hm)
   | (go_at_call 50;refine (clone_any (.slice (some ⟨p,5,none⟩) 8 8) b _ (hv.below S.B) (by have:=HL.out;omega)).mono ?_;rintro e w4 ⟨r,rfl,b4,o4,f4⟩;obtain ⟨ra,rc,rfl,-,-⟩:=own_shape o4;have hb4:=blk_below hb3 b4;have y4:w4.cell? ⟨w2.heap.size,4,none⟩=some (.slice none 0 0):=blk_cell hb4 4;have z4:=blk_free hb4 4)
   | (refine wpList_load_blk rfl _ _ rfl w2.heap.size rfl (frX { Fr.of h with data:=b } (.slice ra b.length rc) (.slice none 0 0)) 63 (blk_set hb4 4 _) Tryz.underlying63 infoFi ?_)
   | (refine wpList_store_blk rfl _ _ _ rfl w.heap.size rfl (frX { Fr.of h with data:=b } (.slice ra b.length rc) (.slice none 0 0)) _ rfl 63 (blk_set_other (blk_below S.q b4) (Nat.ne_of_lt S.lo) _) rfl infoFi (by simp [Value.oneCell',frX,frameC]) ?_;intro w5 hb5 k5))
 refine ret_blk rfl w.heap.size _ _ rfl hb5 Tryz.underlying63 infoFi rfl ?_
 have ne:(Value.slice ra b.length rc).ownBlock≠some w2.heap.size:=fun e=>by have:=f4 _ e;have:=S.hi;omega
 exact pln_end ((Below.step S.B b4).setCell (Nat.le_of_lt S.lo) _) k5 (rd_of_row (own_set o4 ne _)) (fresh_in f4 fun k hk=>by have:=S.hi;have:=S.lo;omega) (RdP.nil _) (inK_nil _)
end Go.Proofs.YtfdlbjibninakaaGreatDoor

namespace Go.Proofs.YtfdlbjibninakaaGreatDoor
set_option maxRecDepth 10000
set_option maxHeartbeats 8000000
open Go.RowKit
theorem below_drw_push {B:Nat} {w w':World} (h:Below B w w'):Below B w w'.drew:=⟨h.os,h.tape,h.output,h.size,h.block⟩
theorem plain_push {w:World} {h:Hd} {p:Nat} (hb:HdB h) (g:FrC w p h) {b:List Int} {a:Option Addr} {n c:Nat} {pr:Int} (c5:w.cell? ⟨p,5,none⟩=some (.int .u32 pr)) (c6:w.cell? ⟨p,6,none⟩=some (.slice a n c)) (hv:RdB w (.slice a n c) b) (hl:b.length≤100000000) :
   Calls Tryz.prog 30 #[.iface 149 (.pointer (some ⟨p,0,none⟩))] w (PlnEnd w { Fr.of h with pr:=pr,data:=b }):=by
 obtain ⟨t0,t1,f0,f1,l0,l1⟩:=hb
 have l2:h.ln<4294967296:=by omega
 have hm:(method 391 149 (.pointer (some ⟨p,0,none⟩)) "Header").run Tryz.prog (w.alloc (.cells #[.int .i64 0,.int .i64 0,.int .u32 0,.int .i64 0,.slice none 0 0,.int .u32 0,.int .u32 0,.int .u32 0,.int .u32 0,.bool false,.bool false,.int .u32 0,.int .i64 0,.slice none 0 0] 63))=_:=hd_PushPromiseFrame (g.below (((Kept.refl (· < w.heap.size) w).alloc _).below (Nat.le_refl _)))
 have tn_0:=tn_PushPromiseFrame_DataFrame
 have tn_1:=tn_PushPromiseFrame_HeadersFrame
 have tn_2:=tn_PushPromiseFrame_PriorityFrame
 have tn_3:=tn_PushPromiseFrame_RSTStreamFrame
 have tn_4:=tn_PushPromiseFrame_SettingsFrame
 have ty:=ty_PushPromiseFrame
 go_enter Tryz.func30,Tryz.ntmps30
 go_wp2_with (first
   | (go_at_call 149;refine (header_any _ true h.ty h.fl h.ln h.st _ rfl).mono ?_;rintro e w1 ⟨rfl,b1⟩)
   | (refine wpList_store_blk rfl _ _ _ rfl w1.heap.size rfl _ _ rfl 113 (blk_new _ _) rfl infoFH (by simp [Value.oneCell']) ?_;intro w2 hb2 k2;have e1:w2.cell? ⟨w1.heap.size,1,none⟩=some (.int .u8 h.ty):=blk_cell hb2 1;have e2:w2.cell? ⟨w1.heap.size,2,none⟩=some (.int .u8 h.fl):=blk_cell hb2 2;have e3:w2.cell? ⟨w1.heap.size,3,none⟩=some (.int .u32 h.ln):=blk_cell hb2 3;have e4:w2.cell? ⟨w1.heap.size,4,none⟩=some (.int .u32 h.st):=blk_cell hb2 4)
   | (refine wpList_store_blk rfl _ _ _ rfl w2.heap.size rfl (frX (Fr.of h) (.slice none 0 0) (.slice none 0 0)) _ rfl 63 (blk_new _ _) rfl infoFi (by simp [Value.oneCell',frX,frameC]) ?_;intro w3 hb3 k3;have S:=PlS.mk' b1 k2 k3 hb3;clear e1 e2 e3 e4 hb2 k2 k3 b1 hm;have d5:=cell_below c5 S.B;have y4:w3.cell? ⟨w2.heap.size,4,none⟩=some (.slice none 0 0):=blk_cell hb3 4;have z4:=blk_free hb3 4;have y5:w3.cell? ⟨w2.heap.size,5,none⟩=some (.int .u32 0):=blk_cell hb3 5;have z5:=blk_free hb3 5;have hpo:p≠w2.heap.size:=Nat.ne_of_lt (Nat.lt_trans (World.block_lt_of_cell? w ⟨p,0,none⟩ g.c0) S.lo);have hpo':=Ne.symm hpo)
   | fail)
 go_region_held3 (fun w'=>w'.cell? ⟨p,5,none⟩=some (.int .u32 pr)) (go_keep) (first
     | (go_at_call 57;refine (acc_PushPromiseFrame (w:=w3.drew) (g.below (below_drw_push S.B)).c0 (cell_below c6 (below_drw_push S.B))).mono ?_;rintro e w' ⟨rfl,rfl⟩)
     | (go_at_call 50;refine (clone_any (.slice a n c) b w3.drew (hv.below (below_drw_push S.B)) hl).mono ?_;rintro e w4 ⟨r,rfl,b4,o4,f4⟩;obtain ⟨ra,rc,rfl,-,-⟩:=own_shape o4;have hb4:=blk_below (w:=w3.drew) hb3 b4;have x5:=cell_below (w:=w3.drew) d5 b4;have u4:w4.cell? ⟨w2.heap.size,4,none⟩=some (.slice none 0 0):=blk_cell hb4 4;have v4:=blk_free hb4 4;have u5:w4.cell? ⟨w2.heap.size,5,none⟩=some (.int .u32 0):=blk_cell hb4 5;have v5:=blk_free hb4 5))
 clear d5 x5
 go_wp2_with (first
   | fail
   | (refine wpList_load_blk rfl _ _ rfl w2.heap.size rfl (frX { Fr.of h with pr:=pr,data:=b } (.slice ra b.length rc) (.slice none 0 0)) 63 ((blk_set (blk_set hb4 4 _) 5 _)) Tryz.underlying63 infoFi ?_)
   | (refine wpList_store_blk rfl _ _ _ rfl w.heap.size rfl (frX { Fr.of h with pr:=pr,data:=b } (.slice ra b.length rc) (.slice none 0 0)) _ rfl 63 ((blk_set_other (blk_set_other (blk_below (w:=w3.drew) S.q b4) (Nat.ne_of_lt S.lo) _) (Nat.ne_of_lt S.lo) _)) rfl infoFi (by simp [Value.oneCell',frX,frameC]) ?_;intro w5 hb5 k5))
 refine ret_blk rfl w.heap.size _ _ rfl hb5 Tryz.underlying63 infoFi rfl ?_
 have ne:(Value.slice ra b.length rc).ownBlock≠some w2.heap.size:=fun e=>by have h4:w3.heap.size≤w2.heap.size:=f4 _ e;have:=S.hi;omega
 exact pln_end (((Below.step (below_drw_push S.B) b4).setCell (Nat.le_of_lt S.lo) _).setCell (Nat.le_of_lt S.lo) _) k5 (rd_of_row (own_set (own_set o4 ne _) ne _)) (fresh_in (B:=w3.heap.size) f4 fun k hk=>by have:=S.hi;have:=S.lo;omega) (RdP.nil _) (inK_nil _)
end Go.Proofs.YtfdlbjibninakaaGreatDoor

namespace Go.Proofs.YtfdlbjibninakaaGreatDoor
set_option maxRecDepth 10000
set_option maxHeartbeats 8000000
open Go.RowKit
theorem below_drw_goaway {B:Nat} {w w':World} (h:Below B w w'):Below B w w'.drew:=⟨h.os,h.tape,h.output,h.size,h.block⟩
theorem plain_goaway {w:World} {h:Hd} {p:Nat} (hb:HdB h) (g:FrC w p h) {b:List Int} {a:Option Addr} {n c:Nat} {la co:Int} (c5:w.cell? ⟨p,5,none⟩=some (.int .u32 la)) (c6:w.cell? ⟨p,6,none⟩=some (.int .u32 co)) (c7:w.cell? ⟨p,7,none⟩=some (.slice a n c)) (hv:RdB w (.slice a n c) b) (hl:b.length≤100000000) :
   Calls Tryz.prog 30 #[.iface 156 (.pointer (some ⟨p,0,none⟩))] w (PlnEnd w { Fr.of h with la:=la,co:=co,data:=b }):=by
 obtain ⟨t0,t1,f0,f1,l0,l1⟩:=hb
 have l2:h.ln<4294967296:=by omega
 have hm:(method 391 156 (.pointer (some ⟨p,0,none⟩)) "Header").run Tryz.prog (w.alloc (.cells #[.int .i64 0,.int .i64 0,.int .u32 0,.int .i64 0,.slice none 0 0,.int .u32 0,.int .u32 0,.int .u32 0,.int .u32 0,.bool false,.bool false,.int .u32 0,.int .i64 0,.slice none 0 0] 63))=_:=hd_GoAwayFrame (g.below (((Kept.refl (· < w.heap.size) w).alloc _).below (Nat.le_refl _)))
 have tn_0:=tn_GoAwayFrame_DataFrame
 have tn_1:=tn_GoAwayFrame_HeadersFrame
 have tn_2:=tn_GoAwayFrame_PriorityFrame
 have tn_3:=tn_GoAwayFrame_RSTStreamFrame
 have tn_4:=tn_GoAwayFrame_SettingsFrame
 have tn_5:=tn_GoAwayFrame_PushPromiseFrame
 have tn_6:=tn_GoAwayFrame_PingFrame
 have ty:=ty_GoAwayFrame
 go_enter Tryz.func30,Tryz.ntmps30
 go_wp2_with (first
   | (go_at_call 149;refine (header_any _ true h.ty h.fl h.ln h.st _ rfl).mono ?_;rintro e w1 ⟨rfl,b1⟩)
   | (refine wpList_store_blk rfl _ _ _ rfl w1.heap.size rfl _ _ rfl 113 (blk_new _ _) rfl infoFH (by simp [Value.oneCell']) ?_;intro w2 hb2 k2;have e1:w2.cell? ⟨w1.heap.size,1,none⟩=some (.int .u8 h.ty):=blk_cell hb2 1;have e2:w2.cell? ⟨w1.heap.size,2,none⟩=some (.int .u8 h.fl):=blk_cell hb2 2;have e3:w2.cell? ⟨w1.heap.size,3,none⟩=some (.int .u32 h.ln):=blk_cell hb2 3;have e4:w2.cell? ⟨w1.heap.size,4,none⟩=some (.int .u32 h.st):=blk_cell hb2 4)
   | (refine wpList_store_blk rfl _ _ _ rfl w2.heap.size rfl (frX (Fr.of h) (.slice none 0 0) (.slice none 0 0)) _ rfl 63 (blk_new _ _) rfl infoFi (by simp [Value.oneCell',frX,frameC]) ?_;intro w3 hb3 k3;have S:=PlS.mk' b1 k2 k3 hb3;clear e1 e2 e3 e4 hb2 k2 k3 b1 hm;have d5:=cell_below c5 S.B;have d6:=cell_below c6 S.B;have y4:w3.cell? ⟨w2.heap.size,4,none⟩=some (.slice none 0 0):=blk_cell hb3 4;have z4:=blk_free hb3 4;have y6:w3.cell? ⟨w2.heap.size,6,none⟩=some (.int .u32 0):=blk_cell hb3 6;have z6:=blk_free hb3 6;have y7:w3.cell? ⟨w2.heap.size,7,none⟩=some (.int .u32 0):=blk_cell hb3 7;have z7:=blk_free hb3 7;have hpo:p≠w2.heap.size:=Nat.ne_of_lt (Nat.lt_trans (World.block_lt_of_cell? w ⟨p,0,none⟩ g.c0) S.lo);have hpo':=Ne.symm hpo)
   | fail)
 go_region_held3 (fun w'=>w'.cell? ⟨p,5,none⟩=some (.int .u32 la)∧w'.cell? ⟨p,6,none⟩=some (.int .u32 co)) (go_keep) (first
     | (go_at_call 58;refine (acc_GoAwayFrame (w:=w3.drew) (g.below (below_drw_goaway S.B)).c0 (cell_below c7 (below_drw_goaway S.B))).mono ?_;rintro e w' ⟨rfl,rfl⟩)
     | (go_at_call 50;refine (clone_any (.slice a n c) b w3.drew (hv.below (below_drw_goaway S.B)) hl).mono ?_;rintro e w4 ⟨r,rfl,b4,o4,f4⟩;obtain ⟨ra,rc,rfl,-,-⟩:=own_shape o4;have hb4:=blk_below (w:=w3.drew) hb3 b4;have x5:=cell_below (w:=w3.drew) d5 b4;have x6:=cell_below (w:=w3.drew) d6 b4;have u4:w4.cell? ⟨w2.heap.size,4,none⟩=some (.slice none 0 0):=blk_cell hb4 4;have v4:=blk_free hb4 4;have u6:w4.cell? ⟨w2.heap.size,6,none⟩=some (.int .u32 0):=blk_cell hb4 6;have v6:=blk_free hb4 6;have u7:w4.cell? ⟨w2.heap.size,7,none⟩=some (.int .u32 0):=blk_cell hb4 7;have v7:=blk_free hb4 7))
 clear d5 x5 d6 x6
 go_wp2_with (first
   | fail
   | (refine wpList_load_blk rfl _ _ rfl w2.heap.size rfl (frX { Fr.of h with la:=la,co:=co,data:=b } (.slice ra b.length rc) (.slice none 0 0)) 63 ((blk_set (blk_set (blk_set hb4 4 _) 7 _) 6 _)) Tryz.underlying63 infoFi ?_)
   | (refine wpList_store_blk rfl _ _ _ rfl w.heap.size rfl (frX { Fr.of h with la:=la,co:=co,data:=b } (.slice ra b.length rc) (.slice none 0 0)) _ rfl 63 ((blk_set_other (blk_set_other (blk_set_other (blk_below (w:=w3.drew) S.q b4) (Nat.ne_of_lt S.lo) _) (Nat.ne_of_lt S.lo) _) (Nat.ne_of_lt S.lo) _)) rfl infoFi (by simp [Value.oneCell',frX,frameC]) ?_;intro w5 hb5 k5))
 refine ret_blk rfl w.heap.size _ _ rfl hb5 Tryz.underlying63 infoFi rfl ?_
 have ne:(Value.slice ra b.length rc).ownBlock≠some w2.heap.size:=fun e=>by have h4:w3.heap.size≤w2.heap.size:=f4 _ e;have:=S.hi;omega
 exact pln_end ((((Below.step (below_drw_goaway S.B) b4).setCell (Nat.le_of_lt S.lo) _).setCell (Nat.le_of_lt S.lo) _).setCell (Nat.le_of_lt S.lo) _) k5 (rd_of_row (own_set (own_set (own_set o4 ne _) ne _) ne _)) (fresh_in (B:=w3.heap.size) f4 fun k hk=>by have:=S.hi;have:=S.lo;omega) (RdP.nil _) (inK_nil _)
end Go.Proofs.YtfdlbjibninakaaGreatDoor

/- impl.plain: priority updates. -/
import Derived.Test.YtfdlbjibninakaaGreatDoorIp1
import Derived.Outline
import Derived.Lib.ConvBytes
import Derived.RegionTactic
set_option linter.unusedVariables false
set_option linter.unusedSimpArgs false
namespace Go.Proofs.YtfdlbjibninakaaGreatDoor
set_option maxRecDepth 10000
set_option maxHeartbeats 8000000
open Go.RowKit
theorem plain_headers {w:World} {h:Hd} {p:Nat} (hb:HdB h) (g:FrC w p h) {b:List Int} {a:Option Addr} {n c:Nat} {dep wt:Int} {ex:Bool} (c5:w.cell? ⟨p,5,none⟩=some (.int .u32 dep)) (c6:w.cell? ⟨p,6,none⟩=some (.bool ex)) (c7:w.cell? ⟨p,7,none⟩=some (.int .u8 wt)) (c8:w.cell? ⟨p,8,none⟩=some (.int .u8 0)) (c9:w.cell? ⟨p,9,none⟩=some (.int .u8 0)) (wt0:0≤wt) (wt1:wt<256) (c10:w.cell? ⟨p,10,none⟩=some (.slice a n c)) (hv:RdB w (.slice a n c) b) (hl:b.length≤100000000) :
   Calls Tryz.prog 30 #[.iface 129 (.pointer (some ⟨p,0,none⟩))] w (PlnEnd w { Fr.of h with data:=b,hp:=bitOf h.fl 32,ex:=ex,dep:=dep,wt:=wt }):=by
 obtain ⟨t0,t1,f0,f1,l0,l1⟩:=hb
 have l2:h.ln<4294967296:=by omega
 have hm:(method 391 129 (.pointer (some ⟨p,0,none⟩)) "Header").run Tryz.prog (w.alloc (.cells #[.int .i64 0,.int .i64 0,.int .u32 0,.int .i64 0,.slice none 0 0,.int .u32 0,.int .u32 0,.int .u32 0,.int .u32 0,.bool false,.bool false,.int .u32 0,.int .i64 0,.slice none 0 0] 63))=_:=hd_HeadersFrame (g.below (((Kept.refl (· < w.heap.size) w).alloc _).below (Nat.le_refl _)))
 have tn_0:=tn_HeadersFrame_DataFrame
 have ty:=ty_HeadersFrame
 go_enter Tryz.func30,Tryz.ntmps30
 go_wp2_with (first
   | (go_at_call 149;refine (header_any _ true h.ty h.fl h.ln h.st _ rfl).mono ?_;rintro e w1 ⟨rfl,b1⟩)
   | (refine wpList_store_blk rfl _ _ _ rfl w1.heap.size rfl _ _ rfl 113 (blk_new _ _) rfl infoFH (by simp [Value.oneCell']) ?_;intro w2 hb2 k2;have e1:w2.cell? ⟨w1.heap.size,1,none⟩=some (.int .u8 h.ty):=blk_cell hb2 1;have e2:w2.cell? ⟨w1.heap.size,2,none⟩=some (.int .u8 h.fl):=blk_cell hb2 2;have e3:w2.cell? ⟨w1.heap.size,3,none⟩=some (.int .u32 h.ln):=blk_cell hb2 3;have e4:w2.cell? ⟨w1.heap.size,4,none⟩=some (.int .u32 h.st):=blk_cell hb2 4)
   | (refine wpList_store_blk rfl _ _ _ rfl w2.heap.size rfl (frX (Fr.of h) (.slice none 0 0) (.slice none 0 0)) _ rfl 63 (blk_new _ _) rfl infoFi (by simp [Value.oneCell',frX,frameC]) ?_;intro w3 hb3 k3;have S:=PlS.mk' b1 k2 k3 hb3;clear e1 e2 e3 e4 hb2 k2 k3 b1 hm)
   | (go_at_call 52;refine (acc_HeadersFrame (g.below S.B).c0 (cell_below c10 S.B)).mono ?_;rintro e w' ⟨rfl,rfl⟩)
   | (go_at_call 50;refine (clone_any _ b _ (hv.below S.B) hl).mono ?_;rintro e w4 ⟨r,rfl,b4,o4,f4⟩;obtain ⟨ra,rc,rfl,-,-⟩:=own_shape o4;have hb4:=blk_below hb3 b4;have y4:w4.cell? ⟨w2.heap.size,4,none⟩=some (.slice none 0 0):=blk_cell hb4 4;have z4:=blk_free hb4 4;have y9:w4.cell? ⟨w2.heap.size,9,none⟩=some (.bool false):=blk_cell hb4 9;have z9:=blk_free hb4 9;have hpo:p≠w2.heap.size:=Nat.ne_of_lt (Nat.lt_trans (World.block_lt_of_cell? w ⟨p,0,none⟩ g.c0) S.lo))
   | (go_at_call 53;refine (hasPrio_any f0 f1 ((g.below S.B).below b4).c2).mono ?_;rintro e w' ⟨rfl,rfl⟩)
   | (refine wpList_load_at rfl 133 _ rfl p 5 rfl #[.int .u32 dep,.bool ex,.int .u8 wt,.int .u8 0,.int .u8 0] (blk_five (cs2 hpo (cell_below (cell_below c5 S.B) b4)) (cs2 hpo (cell_below (cell_below c6 S.B) b4)) (cs2 hpo (cell_below (cell_below c7 S.B) b4)) (cs2 hpo (cell_below (cell_below c8 S.B) b4)) (cs2 hpo (cell_below (cell_below c9 S.B) b4))) Tryz.underlying133 infoPP ?_)
   | (go_at_call 54;refine (prior_any (x:={ Fr.of h with data:=b,hp:=bitOf h.fl 32 }) (dv:=.slice ra b.length rc) (sv:=.slice none 0 0) (blk_set (blk_set hb4 4 _) 9 _) dep wt ex wt0 wt1).mono ?_;rintro e w6 ⟨rfl,hb6,k6⟩)
   | (refine wpList_load_blk rfl _ _ rfl w2.heap.size rfl (frX { Fr.of h with data:=b,hp:=bitOf h.fl 32,ex:=ex,dep:=dep,wt:=wt } (.slice ra b.length rc) (.slice none 0 0)) 63 (hb6) Tryz.underlying63 infoFi ?_)
   | (refine wpList_store_blk rfl _ _ _ rfl w.heap.size rfl (frX { Fr.of h with data:=b,hp:=bitOf h.fl 32,ex:=ex,dep:=dep,wt:=wt } (.slice ra b.length rc) (.slice none 0 0)) _ rfl 63 (k6.at (Nat.ne_of_lt S.lo) (blk_set_other (blk_set_other (blk_below S.q b4) (Nat.ne_of_lt S.lo) _) (Nat.ne_of_lt S.lo) _)) rfl infoFi (by simp [Value.oneCell',frX,frameC]) ?_;intro w5 hb5 k5))
 refine ret_blk rfl w.heap.size _ _ rfl hb5 Tryz.underlying63 infoFi rfl ?_
 have ne:(Value.slice ra b.length rc).ownBlock≠some w2.heap.size:=fun e=>by have:=f4 _ e;have:=S.hi;omega
 exact pln_end ((Kept.ofBelow (((Below.step S.B b4).setCell (Nat.le_of_lt S.lo) _).setCell (Nat.le_of_lt S.lo) _)).trans (k6.mono fun k h _=>by have:=S.lo;omega) |>.below (Nat.le_refl _)) k5
   (rd_of_row (own_kept (own_set (own_set o4 ne _) ne _) k6 fun g hg e=>ne (e▸hg))) (fresh_in f4 fun k hk=>by have:=S.hi;have:=S.lo;omega) (RdP.nil _) (inK_nil _)
end Go.Proofs.YtfdlbjibninakaaGreatDoor

namespace Go.Proofs.YtfdlbjibninakaaGreatDoor
set_option maxRecDepth 10000
set_option maxHeartbeats 8000000
open Go.RowKit
theorem EIs:Elem Tryz.prog 61 110 2 16 (.agg #[.int .i64 0,.int .u32 0]):=⟨Tryz.underlying61,by kernel_rfl,rfl,by decide⟩
theorem pairs_len (N:Nat) (b:List Int):(pairs N b).length=N:=by
 induction N generalizing b with
 | zero=>rfl
 | succ N ih=>simp [pairs,ih]
theorem pairs_at (N:Nat) (b:List Int) (k:Nat) (h:k<N):(pairs N b)[k]? = some (n16 b (6*k),n32 b (6*k+2)):=by
 induction N generalizing b k with
 | zero=>omega
 | succ N ih =>
   cases k with
   | zero=>rfl
   | succ k =>
     show (pairs N (b.drop 6))[k]? = _
     rw [ih _ _ (by omega),←n16_drop (b.drop 6),←n32_drop (b.drop 6),List.drop_drop,List.drop_drop,n16_drop,n32_drop]
     congr 3<;>omega
theorem prV_snoc (l:List (Int × Int)) (k:Nat) (p:Int × Int) (h:l[k]? = some p):prV (l.take (k+1))=prV (l.take k) ++ [.int .i64 p.1,.int .u32 p.2]:=by
 obtain ⟨hlt,he⟩:=List.getElem?_eq_some_iff.1 h
 rw [List.take_succ_eq_append_getElem hlt,prV_app,he];rfl
def SetEnd (B:Nat) (w:World) (o:Nat) (x:Fr) (dv:Value) (k:Nat) (xs:List Value) (i v:Int) (e:Ending) (w':World):Prop:=
 ∃sv,e = .returned .nilIface∧w'.heap[o]? = some (.cells (frX x dv sv) 63 (0,0))∧Row w' 110 2 sv (k+1) (xs ++ [.int .i64 i,.int .u32 v])∧Fresh B sv∧Below B w w'
theorem setApp_any {B:Nat} {w:World} {o:Nat} {x:Fr} {dv sv:Value} {k:Nat} {xs:List Value} (ho:w.heap[o]? = some (.cells (frX x dv sv) 63 (0,0))) (hr:Row w 110 2 sv k xs) (hk:k≤3000000) (hf:Fresh B sv) (hB:B≤o) (i v:Int) (i0:0≤i) (i1:i<65536) :
   Calls Tryz.prog 56 #[.agg #[.int .u16 i,.int .u32 v],.pointer (some ⟨o,0,none⟩)] w (SetEnd B w o x dv k xs i v):=by
 obtain ⟨va,vc,rfl,hvc,hvm⟩:=own_shape hr
 have hlt:=lt_of_block ho
 have hne:=own_block hr ho (by decide)
 have c13:w.cell? ⟨o,13,none⟩=some (.slice va k vc):=blk_cell ho 13
 have HO:=Lib.hid ho
 clear ho
 go_enter Tryz.func56,Tryz.ntmps56
 go_wp2_with (at_builtin;refine wpList_app EIs rfl _ _ rfl (.slice va k vc) k _ rfl (own_alloc (own_alloc hr _) _) 1 _ (src_of_block Tryz.underlying61 (blk_at _ _ (by simp)) rfl (by simp [Value.oneCell'])) (by omega) (by unfold maxLen;omega) ?_;intro a' c' w2 hown2 hgrow hat;have hb2:w2.heap[o]? = _:=blk_grown (blk_alloc (blk_alloc HO.out)) hgrow hne;have hd13:w2.cell? ⟨o,13,none⟩=some (.slice va k vc):=blk_cell hb2 13;have hf13:=blk_free hb2 13)
 go_ret
 refine ⟨.slice a' (k+1) c',rfl,blk_set hb2 13 _,own_set hown2 (own_block hown2 hb2 (by decide)) _,hf.app (by simp;omega) hat,?_⟩
 exact (Below.app (((Below.refl _ _).alloc (by omega) _).alloc (by simp;omega) _) (by simp;omega) hgrow hf).setCell (by simp;omega) _
def EachEnd (w:World) (o:Nat) (x:Fr) (dv:Value) (l:List (Int × Int)) (e:Ending) (w':World):Prop:=
 ∃sv,e = .returned .nilIface∧w'.heap[o]? = some (.cells (frX x dv sv) 63 (0,0))∧Row w' 110 2 sv l.length (prV l)∧Fresh o sv∧Below o w w'
theorem foreach_any {w0 w:World} {p o n c:Nat} {a:Option Addr} {b:List Int} {x:Fr} {dv:Value} (hv:w0.cell? ⟨p,0,none⟩=some (.bool true)) (hc:w0.cell? ⟨p,5,none⟩=some (.slice a n c)) (h:RdB w0 (.slice a n c) b) (hb:Bs b) (hn:n≤16777216)
   (hB:Below w0.heap.size w0 w) (ho0:w0.heap.size≤o) (ho:w.heap[o]? = some (.cells (frX x dv (.slice none 0 0)) 63 (0,0))) :
   Calls Tryz.prog 55 #[.pointer (some ⟨p,0,none⟩),.func (.func 56) #[] #[.pointer (some ⟨o,0,none⟩)]] w (EachEnd w o x dv (pairs (n / 6) b)):=by
 have hcv:=checkValid_any (cell_below hv hB)
 have hbl:b.length=n:=by obtain ⟨_,_,e,-⟩:=h;cases e;rfl
 have HL:=Lib.hid hbl
 have hlo:=lt_of_block ho
 clear hbl
 go_enter Tryz.func55,Tryz.ntmps55
 go_wp2_with (go_at_call 91;refine hcv.mono ?_;rintro e w' ⟨rfl,rfl⟩)
 clear hcv
 go_loopw [5] (fun i wr => ∃k:Nat,i = .int .i64 (k:Int)∧k≤n / 6 ∧ ∃sv,wr.heap[o]? = some (.cells (frX x dv sv) 63 (0,0))∧Row wr 110 2 sv k (prV ((pairs (n / 6) b).take k))∧Fresh o sv∧Below o w wr) (fun i _=>n / 6-(intOf i).toNat)
 case atStart=>exact ⟨0,rfl,Nat.zero_le _,_,ho,World.ownsRow_nil _ _ _ _,Fresh.nil _,Below.refl _ _⟩
 case round =>
   obtain ⟨k,rfl,hk,sv,hbo,hrow,hfr,hbel⟩:=hrel
   have hB2:Below w0.heap.size w0 wr:=hB.trans (hbel.mono ho0)
   have hc2:=cell_below hc hB2
   have h2:=h.below hB2
   have hns:=numSettings_any hc2 (by omega)
   by_cases hkm:k=n / 6
   · have hlt:¬(k:Int)<((n / 6:Nat):Int):=by omega
     have HK:=Lib.hid hkm
     clear hkm hk
     go_wp2_with (go_at_call 93;refine hns.mono ?_;rintro e w' ⟨rfl,rfl⟩)
     go_ret
     refine ⟨sv,rfl,hbo,?_,hfr,hbel⟩
     rw [pairs_len]
     have:=hrow
     rwa [List.take_of_length_le (by rw [pairs_len];have:=HK.out;omega),HK.out] at this
   · have hlt:(k:Int)<((n / 6:Nat):Int):=by omega
     have hst:=setting_any hc2 h2 hb k (by have:=HL.out;omega)
     have hkn:k<n / 6:=by omega
     have hp:=pairs_at (n / 6) b k hkn
     have i0:0≤n16 b (6*k):=by have:=hb.at (6*k);have:=hb.at (6*k+1);unfold n16;omega
     have i1:n16 b (6*k)<65536:=by have:=hb.at (6*k);have:=hb.at (6*k+1);unfold n16;omega
     have hps:=prV_snoc _ _ _ hp
     have HP:=Lib.hid hps
     clear hp hps hkm
     have hlr:=lt_of_block hbo
     generalize n16 b (6*k)=i at *
     generalize n32 b (6*k+2)=v at *
     go_wp2_with (first
       | (go_at_call 93;refine hns.mono ?_;rintro e w' ⟨rfl,rfl⟩)
       | (go_at_call 94;refine hst.mono ?_;rintro e w2 ⟨rfl,hb2⟩)
       | (go_at_call 56;refine (setApp_any (B:=o) (blk_below hbo hb2) (own_below hrow hb2) (by omega) hfr (Nat.le_refl _) i v i0 i1).mono ?_;rintro e w3 ⟨sv3,rfl,hb3,hr3,hf3,hbl3⟩))
     go_roundw
     case rel=>exact ⟨k+1,by go_num,by omega,sv3,hb3,by rw [HP.out];exact hr3,hf3,(Below.then hbel (Nat.le_of_lt hlo) hb2).trans hbl3⟩
     case measure=>simp [intOf];omega
theorem plain_settings {w:World} {h:Hd} {p:Nat} (hb:HdB h) (g:FrC w p h) {b:List Int} {a:Option Addr} {n c:Nat} (c5:w.cell? ⟨p,5,none⟩=some (.slice a n c)) (hv:RdB w (.slice a n c) b) (hb2s:Bs b) (hl:n≤16777216) :
   Calls Tryz.prog 30 #[.iface 142 (.pointer (some ⟨p,0,none⟩))] w (PlnEnd w { Fr.of h with set:=pairs (n / 6) b }):=by
 obtain ⟨t0,t1,f0,f1,l0,l1⟩:=hb
 have l2:h.ln<4294967296:=by omega
 have hm:(method 391 142 (.pointer (some ⟨p,0,none⟩)) "Header").run Tryz.prog (w.alloc (.cells #[.int .i64 0,.int .i64 0,.int .u32 0,.int .i64 0,.slice none 0 0,.int .u32 0,.int .u32 0,.int .u32 0,.int .u32 0,.bool false,.bool false,.int .u32 0,.int .i64 0,.slice none 0 0] 63))=_:=hd_SettingsFrame (g.below (((Kept.refl (· < w.heap.size) w).alloc _).below (Nat.le_refl _)))
 have tn_0:=tn_SettingsFrame_DataFrame
 have tn_1:=tn_SettingsFrame_HeadersFrame
 have tn_2:=tn_SettingsFrame_PriorityFrame
 have tn_3:=tn_SettingsFrame_RSTStreamFrame
 have ty:=ty_SettingsFrame
 go_enter Tryz.func30,Tryz.ntmps30
 go_wp2_with (first
   | (go_at_call 149;refine (header_any _ true h.ty h.fl h.ln h.st _ rfl).mono ?_;rintro e w1 ⟨rfl,b1⟩)
   | (refine wpList_store_blk rfl _ _ _ rfl w1.heap.size rfl _ _ rfl 113 (blk_new _ _) rfl infoFH (by simp [Value.oneCell']) ?_;intro w2 hb2 k2;have e1:w2.cell? ⟨w1.heap.size,1,none⟩=some (.int .u8 h.ty):=blk_cell hb2 1;have e2:w2.cell? ⟨w1.heap.size,2,none⟩=some (.int .u8 h.fl):=blk_cell hb2 2;have e3:w2.cell? ⟨w1.heap.size,3,none⟩=some (.int .u32 h.ln):=blk_cell hb2 3;have e4:w2.cell? ⟨w1.heap.size,4,none⟩=some (.int .u32 h.st):=blk_cell hb2 4)
   | (refine wpList_store_blk rfl _ _ _ rfl w2.heap.size rfl (frX (Fr.of h) (.slice none 0 0) (.slice none 0 0)) _ rfl 63 (blk_new _ _) rfl infoFi (by simp [Value.oneCell',frX,frameC]) ?_;intro w3 hb3 k3;have S:=PlS.mk' b1 k2 k3 hb3;clear e1 e2 e3 e4 hb2 k2 k3 b1 hm)
   | (go_at_call 55;refine (foreach_any g.c0 c5 hv hb2s (by omega) S.B (Nat.le_of_lt S.lo) hb3).mono ?_;rintro e w4 ⟨sv,rfl,hb4,o4,f4,bl4⟩;obtain ⟨ra,rc,rfl,-,-⟩:=own_shape o4)
   | (refine wpList_load_blk rfl _ _ rfl w2.heap.size rfl (frX { Fr.of h with set:=pairs (n / 6) b } (.slice none 0 0) (.slice ra (pairs (n / 6) b).length rc)) 63 (hb4) Tryz.underlying63 infoFi ?_)
   | (refine wpList_store_blk rfl _ _ _ rfl w.heap.size rfl (frX { Fr.of h with set:=pairs (n / 6) b } (.slice none 0 0) (.slice ra (pairs (n / 6) b).length rc)) _ rfl 63 ((Kept.ofBelow bl4).at S.lo S.q) rfl infoFi (by simp [Value.oneCell',frX,frameC]) ?_;intro w5 hb5 k5))
 refine ret_blk rfl w.heap.size _ _ rfl hb5 Tryz.underlying63 infoFi rfl ?_
 exact pln_end (S.B.trans (bl4.mono (Nat.le_of_lt S.lo))) k5 (rdB_nil _) (inK_nil _) (rdP_of_row o4) (fresh_in f4 fun k hk=>Nat.lt_of_lt_of_le S.lo hk)
end Go.Proofs.YtfdlbjibninakaaGreatDoor

namespace Go.Proofs.YtfdlbjibninakaaGreatDoor
set_option maxRecDepth 10000
set_option maxHeartbeats 8000000
open Go.RowKit
theorem bytesRow_nums (b:List Int) (hb:Bs b) (cap j:Nat) (y:Int) (hj:b[j]? = some y):(bytesRow (strOfNums b) cap)[j]? = some (.int .u8 y):=by
 obtain ⟨hlt,he⟩:=List.getElem?_eq_some_iff.1 hj
 have hy:=hb y (List.mem_of_getElem? hj)
 have hs:j<(strOfNums b).data.size:=by simpa [strOfNums] using hlt
 rw [bytesRow_at _ _ _ hs]
 congr 2
 have e:(strOfNums b).data[j]=UInt8.ofNat b[j].toNat:=by simp [strOfNums]
 rw [e,he]
 simp
 omega
theorem plain_update {w:World} {h:Hd} {p:Nat} (hb:HdB h) (g:FrC w p h) {b:List Int} {pr:Int} (c5:w.cell? ⟨p,5,none⟩=some (.string (strOfNums b))) (c6:w.cell? ⟨p,6,none⟩=some (.int .u32 pr)) (hbs:Bs b) (hl:b.length≤100000000) :
   Calls Tryz.prog 30 #[.iface 163 (.pointer (some ⟨p,0,none⟩))] w (PlnEnd w { Fr.of h with pr:=pr,data:=b }):=by
 obtain ⟨t0,t1,f0,f1,l0,l1⟩:=hb
 have l2:h.ln<4294967296:=by omega
 have hm:(method 391 163 (.pointer (some ⟨p,0,none⟩)) "Header").run Tryz.prog (w.alloc (.cells #[.int .i64 0,.int .i64 0,.int .u32 0,.int .i64 0,.slice none 0 0,.int .u32 0,.int .u32 0,.int .u32 0,.int .u32 0,.bool false,.bool false,.int .u32 0,.int .i64 0,.slice none 0 0] 63))=_:=hd_PriorityUpdateFrame (g.below (((Kept.refl (· < w.heap.size) w).alloc _).below (Nat.le_refl _)))
 have tn_0:=tn_PriorityUpdateFrame_DataFrame
 have tn_1:=tn_PriorityUpdateFrame_HeadersFrame
 have tn_2:=tn_PriorityUpdateFrame_PriorityFrame
 have tn_3:=tn_PriorityUpdateFrame_RSTStreamFrame
 have tn_4:=tn_PriorityUpdateFrame_SettingsFrame
 have tn_5:=tn_PriorityUpdateFrame_PushPromiseFrame
 have tn_6:=tn_PriorityUpdateFrame_PingFrame
 have tn_7:=tn_PriorityUpdateFrame_GoAwayFrame
 have tn_8:=tn_PriorityUpdateFrame_WindowUpdateFrame
 have tn_9:=tn_PriorityUpdateFrame_ContinuationFrame
 have ty:=ty_PriorityUpdateFrame
 have hcv:=fun w'=>run_bytes_of_string (P:=Tryz.prog) w' 9 22 5 (strOfNums b) Tryz.underlying9 Tryz.underlying22 Tryz.underlying5
 rw [strOfNums_size] at hcv
 go_enter Tryz.func30,Tryz.ntmps30
 go_wp2_with (first
   | (go_at_call 149;refine (header_any _ true h.ty h.fl h.ln h.st _ rfl).mono ?_;rintro e w1 ⟨rfl,b1⟩)
   | (refine wpList_store_blk rfl _ _ _ rfl w1.heap.size rfl _ _ rfl 113 (blk_new _ _) rfl infoFH (by simp [Value.oneCell']) ?_;intro w2 hb2 k2;have e1:w2.cell? ⟨w1.heap.size,1,none⟩=some (.int .u8 h.ty):=blk_cell hb2 1;have e2:w2.cell? ⟨w1.heap.size,2,none⟩=some (.int .u8 h.fl):=blk_cell hb2 2;have e3:w2.cell? ⟨w1.heap.size,3,none⟩=some (.int .u32 h.ln):=blk_cell hb2 3;have e4:w2.cell? ⟨w1.heap.size,4,none⟩=some (.int .u32 h.st):=blk_cell hb2 4)
   | (refine wpList_store_blk rfl _ _ _ rfl w2.heap.size rfl (frX (Fr.of h) (.slice none 0 0) (.slice none 0 0)) _ rfl 63 (blk_new _ _) rfl infoFi (by simp [Value.oneCell',frX,frameC]) ?_;intro w3 hb3 k3;have S:=PlS.mk' b1 k2 k3 hb3;clear e1 e2 e3 e4 hb2 k2 k3 b1 hm;have d5:=cell_below c5 S.B;have d6:=cell_below c6 S.B;have y4:w3.cell? ⟨w2.heap.size,4,none⟩=some (.slice none 0 0):=blk_cell hb3 4;have z4:=blk_free hb3 4;have y5:w3.cell? ⟨w2.heap.size,5,none⟩=some (.int .u32 0):=blk_cell hb3 5;have z5:=blk_free hb3 5;have lt1:w2.heap.size<w3.heap.size:=S.hi;have lt2:p<w3.heap.size:=World.block_lt_of_cell? w3 ⟨p,6,none⟩ d6;have ne1:w2.heap.size≠w3.heap.size:=Nat.ne_of_lt lt1;have ne2:w3.heap.size≠w2.heap.size:=Nat.ne_of_gt lt1)
   | fail)
 go_region
 have hcap0:=grownCap_ge w3.drew b.length 0 5
 have hcap1:=grownCap_le_maxLen w3.drew b.length 0 5 (by unfold maxLen;omega)
 have hrow:=bytesRow_nums b hbs (grownCap w3.drew b.length 0 5)
 clear hcv y4 y5 z4 z5 d5 d6
 generalize bytesRow (strOfNums b) (grownCap w3.drew b.length 0 5)=R at *
 generalize grownCap w3.drew b.length 0 5=cap at *
 have hb4:(((w3.setCell ⟨w2.heap.size,4,none⟩ (.slice (some ⟨w3.heap.size,0,none⟩) b.length cap)).setCell ⟨w2.heap.size,5,none⟩ (.int .u32 pr)).alloc (.cells R 5 (R.size,R.size+1))).drew.drew.heap[w2.heap.size]? = some (.cells (frX { Fr.of h with pr:=pr,data:=b } (.slice (some ⟨w3.heap.size,0,none⟩) b.length cap) (.slice none 0 0)) 63 (0,0)):=blk_drew (blk_drew (blk_alloc (blk_set (blk_set hb3 4 _) 5 _)))
 have hq4:(((w3.setCell ⟨w2.heap.size,4,none⟩ (.slice (some ⟨w3.heap.size,0,none⟩) b.length cap)).setCell ⟨w2.heap.size,5,none⟩ (.int .u32 pr)).alloc (.cells R 5 (R.size,R.size+1))).drew.drew.heap[w.heap.size]? = some (.cells zF 63 (0,0)):=blk_drew (blk_drew (blk_alloc (blk_set_other (blk_set_other S.q (Nat.ne_of_lt S.lo) _) (Nat.ne_of_lt S.lo) _)))
 have hB4:Below w.heap.size w (((w3.setCell ⟨w2.heap.size,4,none⟩ (.slice (some ⟨w3.heap.size,0,none⟩) b.length cap)).setCell ⟨w2.heap.size,5,none⟩ (.int .u32 pr)).alloc (.cells R 5 (R.size,R.size+1))).drew.drew:=(((Kept.ofBelow ((S.B.setCell (Nat.le_of_lt S.lo) _).setCell (Nat.le_of_lt S.lo) _)).alloc _).drew).drew |>.below (Nat.le_refl _)
 have hd4:RdB (((w3.setCell ⟨w2.heap.size,4,none⟩ (.slice (some ⟨w3.heap.size,0,none⟩) b.length cap)).setCell ⟨w2.heap.size,5,none⟩ (.int .u32 pr)).alloc (.cells R 5 (R.size,R.size+1))).drew.drew (.slice (some ⟨w3.heap.size,0,none⟩) b.length cap) b:=by
   refine ⟨_,cap,rfl,hcap0,hcap1,fun j y hj=>⟨w3.heap.size,0,rfl,?_⟩⟩
   rw [Nat.zero_add]
   have hbn:(((w3.setCell ⟨w2.heap.size,4,none⟩ (.slice (some ⟨w3.heap.size,0,none⟩) b.length cap)).setCell ⟨w2.heap.size,5,none⟩ (.int .u32 pr)).alloc (.cells R 5 (R.size,R.size+1))).drew.drew.heap[w3.heap.size]? = some (.cells R 5 (R.size,R.size+1)):=blk_drew (blk_drew (blk_at _ _ (by simp)))
   rw [cell_of_row _ _ _ _ _ _ hbn]
   exact hrow j y hj
 have H4:=Lib.hid hb4
 have Q4:=Lib.hid hq4
 have B4:=Lib.hid hB4
 have D4:=Lib.hid hd4
 have sl:=S.lo
 have sh:=S.hi
 clear hb4 hq4 hB4 hd4 hrow hcap0 hcap1 S hb3
 generalize (((w3.setCell ⟨w2.heap.size,4,none⟩ (.slice (some ⟨w3.heap.size,0,none⟩) b.length cap)).setCell ⟨w2.heap.size,5,none⟩ (.int .u32 pr)).alloc (.cells R 5 (R.size,R.size+1))).drew.drew=w4 at *
 go_wp2_with (first
   | fail
   | (refine wpList_load_blk rfl _ _ rfl w2.heap.size rfl (frX { Fr.of h with pr:=pr,data:=b } (.slice (some ⟨w3.heap.size,0,none⟩) b.length cap) (.slice none 0 0)) 63 (H4.out) Tryz.underlying63 infoFi ?_)
   | (refine wpList_store_blk rfl _ _ _ rfl w.heap.size rfl (frX { Fr.of h with pr:=pr,data:=b } (.slice (some ⟨w3.heap.size,0,none⟩) b.length cap) (.slice none 0 0)) _ rfl 63 (Q4.out) rfl infoFi (by simp [Value.oneCell',frX,frameC]) ?_;intro w5 hb5 k5))
 refine ret_blk rfl w.heap.size _ _ rfl hb5 Tryz.underlying63 infoFi rfl ?_
 exact pln_end B4.out k5 D4.out (.inr (Nat.lt_trans sl sh)) (RdP.nil _) (inK_nil _)
end Go.Proofs.YtfdlbjibninakaaGreatDoor

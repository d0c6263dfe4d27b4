/- Reading: the row for a payload; the last frame's end. -/
import Derived.Test.YtfdlbjibninakaaGreatDoorFh
import Derived.RegionTactic
set_option linter.unusedVariables false
set_option linter.unusedSimpArgs false
namespace Go.Proofs.YtfdlbjibninakaaGreatDoor
set_option maxRecDepth 10000
set_option maxHeartbeats 8000000
open Go.RowKit
section
variable {B : Nat} {K : Nat → Prop} {aE aU aT : Addr} {w w' : World} {bF cl bR : Nat} {m o o' : Int} {L L' ps : List Int} {cs cs' : Array Value} {lf rb rest rest' pcs : Value} {at' at'' : Nat}
theorem OrdEnd.bad {h:Hd} {e:Ending} (hE:OrdEnd w bF cl bR lf o m rb h e w') (hb:ordBad o h=true):e = .returned (.iface 117 (.int .u32 1))∧FEnd w bF cl bR lf o m rb w':=by
 rcases hE with ⟨_,h1,h2⟩|⟨h0,_⟩
 · exact ⟨h1,h2⟩
 · rw [hb] at h0;cases h0
theorem OrdEnd.good {h:Hd} {e:Ending} (hE:OrdEnd w bF cl bR lf o m rb h e w') (hb:ordBad o h=false):e = .returned .nilIface∧FEnd w bF cl bR lf (nextO o h) m rb w':=by
 rcases hE with ⟨h0,_⟩|⟨_,h1,h2⟩
 · rw [hb] at h0;cases h0
 · exact ⟨h1,h2⟩
theorem nextO_0 {h:Hd} (ho:0≤o) (hs:0≤h.st):0≤nextO o h:=by
 unfold nextO
 split
 · split
   · exact Int.le_refl _
   · exact hs
 · exact ho
theorem hdOf_st0:0≤(hdOf L).st:=Int.emod_nonneg _ (by decide)
theorem FEnd.kept (hf:FEnd w bF cl bR lf o' m rb w'):Kept (· ≠ bF) w w':=by
 obtain ⟨_,_,_,h⟩:=hf
 exact h
def HOk (B:Nat) (K:Nat→Prop) (aE aU aT:Addr) (w:World) (bF cl bR:Nat) (m o:Int) (L ps:List Int) (lf rb pcs:Value) (e:Ending) (w':World):Prop:=
 e = .returned (.tuple #[hdV (hdOf L).ty (hdOf L).fl (hdOf L).ln (hdOf L).st,.nilIface])∧Kept K w w' ∧ ∃cs' rest' at'',RSt B K aE aU aT w' bF cl bR m (nextO o (hdOf L)) (L.drop 9) ps cs' lf rb rest' pcs at''
theorem RSt.drawnR (h:RSt B K aE aU aT w bF cl bR m o L ps cs lf rb rest pcs at') (n:Nat):RSt B K aE aU aT (w.drewN n) bF cl bR m o L ps cs lf rb rest pcs at':=h.below (((Kept.refl (· < w.heap.size) w).drawn n).below (Nat.le_refl _))
theorem hdr_ord (h:RSt B K aE aU aT w bF cl bR m o L ps cs lf rb rest pcs at') (hL:9≤L.length) (hm:¬(hdOf L).ln>m) (hob:ordBad o (hdOf L)=true):Calls Tryz.prog 46 #[.pointer (some ⟨bF,0,none⟩)] w (HBad aE aU aT K w 4 1):=by
 have hfl:0≤(hdOf L).fl∧(hdOf L).fl<256:=h.bs.at 4
 obtain ⟨v2,hv2⟩:=h.fs.some (i:=2) (by omega)
 have k2:=(blk_cell (blk_alloc (p:=.cells #[.bool false,.int .u8 0,.int .u8 0,.int .u32 0,.int .u32 0] 113) h.F) 2).trans hv2
 have f2:=blk_free (blk_alloc (p:=.cells #[.bool false,.int .u8 0,.int .u8 0,.int .u32 0,.int .u32 0] 113) h.F) 2
 have h0:=h.set2 .nilIface
 have h1:=h0.below (w':=((w.setCell ⟨bF,2,none⟩ .nilIface).alloc (.cells #[.bool false,.int .u8 0,.int .u8 0,.int .u32 0,.int .u32 0] 113))) (((K0 _).alloc _).below (Nat.le_refl _))
 have bz:=blk_at (n:=w.heap.size) (w.setCell ⟨bF,2,none⟩ .nilIface) (.cells #[.bool false,.int .u8 0,.int .u8 0,.int .u32 0,.int .u32 0] 113) (by simp)
 have hq:bF<w.heap.size:=lt_of_block h.F
 have hq2:bR<w.heap.size:=lt_of_block h.R.R
 have kk1:Kept K w ((w.setCell ⟨bF,2,none⟩ .nilIface).alloc (.cells #[.bool false,.int .u8 0,.int .u8 0,.int .u32 0,.int .u32 0] 113)):=((Kept.refl _ w).setCell (fun hk=>absurd hk h.kF) _).alloc _
 have hKq:¬K w.heap.size:=fun hk=>absurd (h.lt _ hk) (Nat.lt_irrefl _)
 clear h0
 go_enter Tryz.func46,Tryz.ntmps46
 go_wp2
 clear k2 f2 hv2
 generalize ((w.setCell ⟨bF,2,none⟩ .nilIface).alloc (.cells #[.bool false,.int .u8 0,.int .u8 0,.int .u32 0,.int .u32 0] 113))=w1 at *
 have c0:=(blk_cell h1.F 0).trans h1.fs.c0
 have hzl:w.heap.size<w1.heap.size:=lt_of_block bz
 have hd1:=h1.drew
 have hd2:=(h1.below (w':=w1.alloc (.cells #[.bool false,.int .u8 0,.int .u8 0,.int .u32 0,.int .u32 0] 113)) (((K0 _).alloc _).below (Nat.le_refl _))).drew
 have hh1:=readFrameHeader_ok (w:=w1.drew) hd1.V hd1.R hd1.bs hd1.lim hd1.F (off:=7) (by rw [hd1.fs.size];decide) hd1.FR (hd1.rkR hd1.kF) (hd1.pkR hd1.kF) hd1.BR hd1.BF (inK.mono hd1.rk hd1.lt) (inK.mono hd1.pk hd1.lt) hL
 have hh2:=readFrameHeader_ok (w:=(w1.alloc (.cells #[.bool false,.int .u8 0,.int .u8 0,.int .u32 0,.int .u32 0] 113)).drew) hd2.V hd2.R hd2.bs hd2.lim hd2.F (off:=7) (by rw [hd2.fs.size];decide) hd2.FR (hd2.rkR hd2.kF) (hd2.pkR hd2.kF) hd2.BR hd2.BF (inK.mono hd2.rk hd2.lt) (inK.mono hd2.pk hd2.lt) hL
 have hlR:=lt_of_block h1.R.R
 have hlF1:=lt_of_block h1.F
 have hneF:¬bF=w1.heap.size:=by omega
 have hneF2:¬w1.heap.size=bF:=by omega
 go_region_held3 (fun w'=>w'.cell? ⟨bF,0,none⟩=some (.iface 69 (.pointer (some ⟨bR,0,none⟩)))) (go_keep) (first
   | (go_at_call 79;(with_reducible refine hh1.mono ?_);rintro e w2 ⟨rfl,hend⟩;obtain ⟨cs2,rest2,at2,hs2⟩:=hd1.rdHead hend;have k2:=hd1.keptHead hend;have c2:=(blk_cell hs2.F 0).trans hs2.fs.c0)
   | (go_at_call 79;(with_reducible refine hh2.mono ?_);rintro e w2 ⟨rfl,hend⟩;obtain ⟨cs2,rest2,at2,hs2⟩:=hd2.rdHead hend;have k2:=hd2.keptHead hend;have c2:=(blk_cell hs2.F 0).trans hs2.fs.c0;obtain ⟨q0,q1,q2,q3,q4,r0,r1,r2,r3,r4⟩:=five (hend.blkOf (blk_new w1 _) (by omega) (by omega))))
 · have b4:=blk_new w2 (.cells #[.bool true,.int .u8 (hdOf L).ty,.int .u8 (hdOf L).fl,.int .u32 (hdOf L).ln,.int .u32 (hdOf L).st] 113)
   have bq:=blk_alloc (p:=.cells #[.bool true,.int .u8 (hdOf L).ty,.int .u8 (hdOf L).fl,.int .u32 (hdOf L).ln,.int .u32 (hdOf L).st] 113) (hend.blkOf (w:=w1.drew) bz (by omega) (by omega))
   have k3:Kept K w (w2.alloc (.cells #[.bool true,.int .u8 (hdOf L).ty,.int .u8 (hdOf L).fl,.int .u32 (hdOf L).ln,.int .u32 (hdOf L).st] 113)):=(kk1.trans (Kept.undrew k2)).alloc _
   have h3:=hs2.below (w':=w2.alloc (.cells #[.bool true,.int .u8 (hdOf L).ty,.int .u8 (hdOf L).fl,.int .u32 (hdOf L).ln,.int .u32 (hdOf L).st] 113)) (((K0 _).alloc _).below (Nat.le_refl _))
   have hne4:w2.heap.size≠w.heap.size:=by have:=lt_of_block (hend.blkOf (w:=w1.drew) bz (by omega) (by omega));omega
   generalize w2.alloc (.cells #[.bool true,.int .u8 (hdOf L).ty,.int .u8 (hdOf L).fl,.int .u32 (hdOf L).ln,.int .u32 (hdOf L).st] 113)=w3 at *
   have hqF:w2.heap.size≠bF:=by have:=lt_of_block hs2.F;omega
   generalize w2.heap.size=q at *
   clear hh1 hh2 hd1 hd2 hend hs2 c0 c2 h1 bz kk1 k2
   obtain ⟨z0,z1,z2,z3,z4,-⟩:=five b4
   have k6:=(blk_cell h3.F 6).trans h3.fs.c6
   have hBF:=h3.BF
   have h4:=h3.drawnR
   go_wp2
   go_quiet (fail)
   clear z0 z1 z2 z3 z4 k6
   go_wp2_with (first
     | (go_at_call 81;refine (order_any (h4 nq).F h3.fs _ _ _ _ hfl.1 hfl.2).mono ?_;rintro e w5 hE;obtain ⟨rfl,hend5⟩:=hE.bad hob;have b45:=hend5.kept.at (show q≠bF from hqF) (blk_drh b4 _);have bq5:=hend5.kept.at (show w.heap.size≠bF by omega) (blk_drh bq _))
     | (refine wpList_load_blk rfl _ _ rfl q rfl _ 113 (blk_drh b4 _) Tryz.underlying113 infoH ?_)
     | (refine wpList_load_blk rfl _ _ rfl q rfl _ 113 b45 Tryz.underlying113 infoH ?_)
     | (refine wpList_store_blk rfl _ _ _ rfl w.heap.size rfl _ _ rfl 113 bq5 rfl infoH (by simp [Value.oneCell']) ?_;intro w6 b6 k6))
   refine ret_blk2 rfl w.heap.size _ _ rfl b6 Tryz.underlying113 infoH rfl ⟨⟨_,_,_,_,_,by rw [errV_conn];rfl⟩,?_⟩
   exact ((k3.drawn nq).trans (hend5.onK h.kF)).trans (k6.onK fun k hk e=>hKq (e▸hk))
 · have b4:(((((w2.setCell ⟨w1.heap.size,0,none⟩ (.bool true)).setCell ⟨w1.heap.size,1,none⟩ (.int .u8 (hdOf L).ty)).setCell ⟨w1.heap.size,2,none⟩ (.int .u8 (hdOf L).fl)).setCell ⟨w1.heap.size,3,none⟩ (.int .u32 (hdOf L).ln)).setCell ⟨w1.heap.size,4,none⟩ (.int .u32 (hdOf L).st)).heap[w1.heap.size]? = some (.cells #[.bool true,.int .u8 (hdOf L).ty,.int .u8 (hdOf L).fl,.int .u32 (hdOf L).ln,.int .u32 (hdOf L).st] 113 (0,0)):=(blk_set (blk_set (blk_set (blk_set (blk_set (hend.blkOf (blk_new w1 _) (by omega) (by omega)) 0 _) 1 _) 2 _) 3 _) 4 _)
   have bq:(((((w2.setCell ⟨w1.heap.size,0,none⟩ (.bool true)).setCell ⟨w1.heap.size,1,none⟩ (.int .u8 (hdOf L).ty)).setCell ⟨w1.heap.size,2,none⟩ (.int .u8 (hdOf L).fl)).setCell ⟨w1.heap.size,3,none⟩ (.int .u32 (hdOf L).ln)).setCell ⟨w1.heap.size,4,none⟩ (.int .u32 (hdOf L).st)).heap[w.heap.size]? = some (.cells #[.bool false,.int .u8 0,.int .u8 0,.int .u32 0,.int .u32 0] 113):=(blk_set_other (blk_set_other (blk_set_other (blk_set_other (blk_set_other (hend.blkOf (w:=(w1.alloc (.cells #[.bool false,.int .u8 0,.int .u8 0,.int .u32 0,.int .u32 0] 113)).drew) (blk_alloc (w:=w1) bz) (by omega) (by omega)) (by simp;omega) _) (by simp;omega) _) (by simp;omega) _) (by simp;omega) _) (by simp;omega) _)
   have k3:Kept K w (((((w2.setCell ⟨w1.heap.size,0,none⟩ (.bool true)).setCell ⟨w1.heap.size,1,none⟩ (.int .u8 (hdOf L).ty)).setCell ⟨w1.heap.size,2,none⟩ (.int .u8 (hdOf L).fl)).setCell ⟨w1.heap.size,3,none⟩ (.int .u32 (hdOf L).ln)).setCell ⟨w1.heap.size,4,none⟩ (.int .u32 (hdOf L).st)):=((((((kk1.trans ((((Kept.refl K w1).alloc _).drew).trans k2)).setCell (fun hk=>absurd (h1.lt _ hk) (Nat.lt_irrefl _)) _).setCell (fun hk=>absurd (h1.lt _ hk) (Nat.lt_irrefl _)) _).setCell (fun hk=>absurd (h1.lt _ hk) (Nat.lt_irrefl _)) _).setCell (fun hk=>absurd (h1.lt _ hk) (Nat.lt_irrefl _)) _).setCell (fun hk=>absurd (h1.lt _ hk) (Nat.lt_irrefl _)) _)
   have h3:=hs2.elsewhere (w':=(((((w2.setCell ⟨w1.heap.size,0,none⟩ (.bool true)).setCell ⟨w1.heap.size,1,none⟩ (.int .u8 (hdOf L).ty)).setCell ⟨w1.heap.size,2,none⟩ (.int .u8 (hdOf L).fl)).setCell ⟨w1.heap.size,3,none⟩ (.int .u32 (hdOf L).ln)).setCell ⟨w1.heap.size,4,none⟩ (.int .u32 (hdOf L).st))) (q:=w1.heap.size) ((((((K1 w1.heap.size w2).setCell (fun hk=>absurd rfl hk) _).setCell (fun hk=>absurd rfl hk) _).setCell (fun hk=>absurd rfl hk) _).setCell (fun hk=>absurd rfl hk) _).setCell (fun hk=>absurd rfl hk) _) (by omega) (by omega) (Nat.ne_of_lt (lt_of_block h1.C)) (fun e=>(h1.rbLt e)) (fun e=>(h1.lfLt e)) (fun hk=>absurd (h1.lt _ hk) (Nat.lt_irrefl _)) (by have:=h1.BF;omega)
   have hne4:w1.heap.size≠w.heap.size:=by omega
   generalize (((((w2.setCell ⟨w1.heap.size,0,none⟩ (.bool true)).setCell ⟨w1.heap.size,1,none⟩ (.int .u8 (hdOf L).ty)).setCell ⟨w1.heap.size,2,none⟩ (.int .u8 (hdOf L).fl)).setCell ⟨w1.heap.size,3,none⟩ (.int .u32 (hdOf L).ln)).setCell ⟨w1.heap.size,4,none⟩ (.int .u32 (hdOf L).st))=w3 at *
   have hqF:w1.heap.size≠bF:=by omega
   generalize w1.heap.size=q at *
   clear hh1 hh2 hd1 hd2 hend hs2 c0 c2 h1 bz kk1 k2
   obtain ⟨z0,z1,z2,z3,z4,-⟩:=five b4
   have k6:=(blk_cell h3.F 6).trans h3.fs.c6
   have hBF:=h3.BF
   have h4:=h3.drawnR
   go_wp2
   go_quiet (fail)
   clear z0 z1 z2 z3 z4 k6
   go_wp2_with (first
     | (go_at_call 81;refine (order_any (h4 nq).F h3.fs _ _ _ _ hfl.1 hfl.2).mono ?_;rintro e w5 hE;obtain ⟨rfl,hend5⟩:=hE.bad hob;have b45:=hend5.kept.at (show q≠bF from hqF) (blk_drh b4 _);have bq5:=hend5.kept.at (show w.heap.size≠bF by omega) (blk_drh bq _))
     | (refine wpList_load_blk rfl _ _ rfl q rfl _ 113 (blk_drh b4 _) Tryz.underlying113 infoH ?_)
     | (refine wpList_load_blk rfl _ _ rfl q rfl _ 113 b45 Tryz.underlying113 infoH ?_)
     | (refine wpList_store_blk rfl _ _ _ rfl w.heap.size rfl _ _ rfl 113 bq5 rfl infoH (by simp [Value.oneCell']) ?_;intro w6 b6 k6))
   refine ret_blk2 rfl w.heap.size _ _ rfl b6 Tryz.underlying113 infoH rfl ⟨⟨_,_,_,_,_,by rw [errV_conn];rfl⟩,?_⟩
   exact ((k3.drawn nq).trans (hend5.onK h.kF)).trans (k6.onK fun k hk e=>hKq (e▸hk))
theorem hdr_ok (h:RSt B K aE aU aT w bF cl bR m o L ps cs lf rb rest pcs at') (hL:9≤L.length) (hm:¬(hdOf L).ln>m) (hob:ordBad o (hdOf L)=false):Calls Tryz.prog 46 #[.pointer (some ⟨bF,0,none⟩)] w (HOk B K aE aU aT w bF cl bR m o L ps lf rb pcs):=by
 have hfl:0≤(hdOf L).fl∧(hdOf L).fl<256:=h.bs.at 4
 obtain ⟨v2,hv2⟩:=h.fs.some (i:=2) (by omega)
 have k2:=(blk_cell (blk_alloc (p:=.cells #[.bool false,.int .u8 0,.int .u8 0,.int .u32 0,.int .u32 0] 113) h.F) 2).trans hv2
 have f2:=blk_free (blk_alloc (p:=.cells #[.bool false,.int .u8 0,.int .u8 0,.int .u32 0,.int .u32 0] 113) h.F) 2
 have h0:=h.set2 .nilIface
 have h1:=h0.below (w':=((w.setCell ⟨bF,2,none⟩ .nilIface).alloc (.cells #[.bool false,.int .u8 0,.int .u8 0,.int .u32 0,.int .u32 0] 113))) (((K0 _).alloc _).below (Nat.le_refl _))
 have bz:=blk_at (n:=w.heap.size) (w.setCell ⟨bF,2,none⟩ .nilIface) (.cells #[.bool false,.int .u8 0,.int .u8 0,.int .u32 0,.int .u32 0] 113) (by simp)
 have hq:bF<w.heap.size:=lt_of_block h.F
 have hq2:bR<w.heap.size:=lt_of_block h.R.R
 have kk1:Kept K w ((w.setCell ⟨bF,2,none⟩ .nilIface).alloc (.cells #[.bool false,.int .u8 0,.int .u8 0,.int .u32 0,.int .u32 0] 113)):=((Kept.refl _ w).setCell (fun hk=>absurd hk h.kF) _).alloc _
 have hKq:¬K w.heap.size:=fun hk=>absurd (h.lt _ hk) (Nat.lt_irrefl _)
 clear h0
 go_enter Tryz.func46,Tryz.ntmps46
 go_wp2
 clear k2 f2 hv2
 generalize ((w.setCell ⟨bF,2,none⟩ .nilIface).alloc (.cells #[.bool false,.int .u8 0,.int .u8 0,.int .u32 0,.int .u32 0] 113))=w1 at *
 have c0:=(blk_cell h1.F 0).trans h1.fs.c0
 have hzl:w.heap.size<w1.heap.size:=lt_of_block bz
 have hd1:=h1.drew
 have hd2:=(h1.below (w':=w1.alloc (.cells #[.bool false,.int .u8 0,.int .u8 0,.int .u32 0,.int .u32 0] 113)) (((K0 _).alloc _).below (Nat.le_refl _))).drew
 have hh1:=readFrameHeader_ok (w:=w1.drew) hd1.V hd1.R hd1.bs hd1.lim hd1.F (off:=7) (by rw [hd1.fs.size];decide) hd1.FR (hd1.rkR hd1.kF) (hd1.pkR hd1.kF) hd1.BR hd1.BF (inK.mono hd1.rk hd1.lt) (inK.mono hd1.pk hd1.lt) hL
 have hh2:=readFrameHeader_ok (w:=(w1.alloc (.cells #[.bool false,.int .u8 0,.int .u8 0,.int .u32 0,.int .u32 0] 113)).drew) hd2.V hd2.R hd2.bs hd2.lim hd2.F (off:=7) (by rw [hd2.fs.size];decide) hd2.FR (hd2.rkR hd2.kF) (hd2.pkR hd2.kF) hd2.BR hd2.BF (inK.mono hd2.rk hd2.lt) (inK.mono hd2.pk hd2.lt) hL
 have hlR:=lt_of_block h1.R.R
 have hlF1:=lt_of_block h1.F
 have hneF:¬bF=w1.heap.size:=by omega
 have hneF2:¬w1.heap.size=bF:=by omega
 go_region_held3 (fun w'=>w'.cell? ⟨bF,0,none⟩=some (.iface 69 (.pointer (some ⟨bR,0,none⟩)))) (go_keep) (first
   | (go_at_call 79;(with_reducible refine hh1.mono ?_);rintro e w2 ⟨rfl,hend⟩;obtain ⟨cs2,rest2,at2,hs2⟩:=hd1.rdHead hend;have k2:=hd1.keptHead hend;have c2:=(blk_cell hs2.F 0).trans hs2.fs.c0)
   | (go_at_call 79;(with_reducible refine hh2.mono ?_);rintro e w2 ⟨rfl,hend⟩;obtain ⟨cs2,rest2,at2,hs2⟩:=hd2.rdHead hend;have k2:=hd2.keptHead hend;have c2:=(blk_cell hs2.F 0).trans hs2.fs.c0;obtain ⟨q0,q1,q2,q3,q4,r0,r1,r2,r3,r4⟩:=five (hend.blkOf (blk_new w1 _) (by omega) (by omega))))
 · have b4:=blk_new w2 (.cells #[.bool true,.int .u8 (hdOf L).ty,.int .u8 (hdOf L).fl,.int .u32 (hdOf L).ln,.int .u32 (hdOf L).st] 113)
   have bq:=blk_alloc (p:=.cells #[.bool true,.int .u8 (hdOf L).ty,.int .u8 (hdOf L).fl,.int .u32 (hdOf L).ln,.int .u32 (hdOf L).st] 113) (hend.blkOf (w:=w1.drew) bz (by omega) (by omega))
   have k3:Kept K w (w2.alloc (.cells #[.bool true,.int .u8 (hdOf L).ty,.int .u8 (hdOf L).fl,.int .u32 (hdOf L).ln,.int .u32 (hdOf L).st] 113)):=(kk1.trans (Kept.undrew k2)).alloc _
   have h3:=hs2.below (w':=w2.alloc (.cells #[.bool true,.int .u8 (hdOf L).ty,.int .u8 (hdOf L).fl,.int .u32 (hdOf L).ln,.int .u32 (hdOf L).st] 113)) (((K0 _).alloc _).below (Nat.le_refl _))
   have hne4:w2.heap.size≠w.heap.size:=by have:=lt_of_block (hend.blkOf (w:=w1.drew) bz (by omega) (by omega));omega
   generalize w2.alloc (.cells #[.bool true,.int .u8 (hdOf L).ty,.int .u8 (hdOf L).fl,.int .u32 (hdOf L).ln,.int .u32 (hdOf L).st] 113)=w3 at *
   have hqF:w2.heap.size≠bF:=by have:=lt_of_block hs2.F;omega
   generalize w2.heap.size=q at *
   clear hh1 hh2 hd1 hd2 hend hs2 c0 c2 h1 bz kk1 k2
   obtain ⟨z0,z1,z2,z3,z4,-⟩:=five b4
   have k6:=(blk_cell h3.F 6).trans h3.fs.c6
   have hBF:=h3.BF
   have h4:=h3.drawnR
   go_wp2
   go_quiet (fail)
   clear z0 z1 z2 z3 z4 k6
   go_wp2_with (first
     | (go_at_call 81;refine (order_any (h4 nq).F h3.fs _ _ _ _ hfl.1 hfl.2).mono ?_;rintro e w5 hE;obtain ⟨rfl,hend5⟩:=hE.good hob;have b45:=hend5.kept.at (show q≠bF from hqF) (blk_drh b4 _);have bq5:=hend5.kept.at (show w.heap.size≠bF by omega) (blk_drh bq _))
     | (refine wpList_load_blk rfl _ _ rfl q rfl _ 113 (blk_drh b4 _) Tryz.underlying113 infoH ?_)
     | (refine wpList_load_blk rfl _ _ rfl q rfl _ 113 b45 Tryz.underlying113 infoH ?_)
     | (refine wpList_store_blk rfl _ _ _ rfl w.heap.size rfl _ _ rfl 113 bq5 rfl infoH (by simp [Value.oneCell']) ?_;intro w6 b6 k6))
   refine ret_blk2 rfl w.heap.size _ _ rfl b6 Tryz.underlying113 infoH rfl ⟨rfl,?_,?_⟩
   · exact ((k3.drawn nq).trans (hend5.onK h.kF)).trans (k6.onK fun k hk e=>hKq (e▸hk))
   · obtain ⟨cs7,h7⟩:=(h4 nq).fend hend5 (nextO_0 h.o0 hdOf_st0)
     exact ⟨cs7,_,_,h7.elsewhere k6 (Nat.ne_of_lt hq) (Nat.ne_of_lt hq2) (Nat.ne_of_lt (lt_of_block h.C)) (fun e=>h.rbLt e) (fun e=>h.lfLt e) hKq (by omega)⟩
 · have b4:(((((w2.setCell ⟨w1.heap.size,0,none⟩ (.bool true)).setCell ⟨w1.heap.size,1,none⟩ (.int .u8 (hdOf L).ty)).setCell ⟨w1.heap.size,2,none⟩ (.int .u8 (hdOf L).fl)).setCell ⟨w1.heap.size,3,none⟩ (.int .u32 (hdOf L).ln)).setCell ⟨w1.heap.size,4,none⟩ (.int .u32 (hdOf L).st)).heap[w1.heap.size]? = some (.cells #[.bool true,.int .u8 (hdOf L).ty,.int .u8 (hdOf L).fl,.int .u32 (hdOf L).ln,.int .u32 (hdOf L).st] 113 (0,0)):=(blk_set (blk_set (blk_set (blk_set (blk_set (hend.blkOf (blk_new w1 _) (by omega) (by omega)) 0 _) 1 _) 2 _) 3 _) 4 _)
   have bq:(((((w2.setCell ⟨w1.heap.size,0,none⟩ (.bool true)).setCell ⟨w1.heap.size,1,none⟩ (.int .u8 (hdOf L).ty)).setCell ⟨w1.heap.size,2,none⟩ (.int .u8 (hdOf L).fl)).setCell ⟨w1.heap.size,3,none⟩ (.int .u32 (hdOf L).ln)).setCell ⟨w1.heap.size,4,none⟩ (.int .u32 (hdOf L).st)).heap[w.heap.size]? = some (.cells #[.bool false,.int .u8 0,.int .u8 0,.int .u32 0,.int .u32 0] 113):=(blk_set_other (blk_set_other (blk_set_other (blk_set_other (blk_set_other (hend.blkOf (w:=(w1.alloc (.cells #[.bool false,.int .u8 0,.int .u8 0,.int .u32 0,.int .u32 0] 113)).drew) (blk_alloc (w:=w1) bz) (by omega) (by omega)) (by simp;omega) _) (by simp;omega) _) (by simp;omega) _) (by simp;omega) _) (by simp;omega) _)
   have k3:Kept K w (((((w2.setCell ⟨w1.heap.size,0,none⟩ (.bool true)).setCell ⟨w1.heap.size,1,none⟩ (.int .u8 (hdOf L).ty)).setCell ⟨w1.heap.size,2,none⟩ (.int .u8 (hdOf L).fl)).setCell ⟨w1.heap.size,3,none⟩ (.int .u32 (hdOf L).ln)).setCell ⟨w1.heap.size,4,none⟩ (.int .u32 (hdOf L).st)):=((((((kk1.trans ((((Kept.refl K w1).alloc _).drew).trans k2)).setCell (fun hk=>absurd (h1.lt _ hk) (Nat.lt_irrefl _)) _).setCell (fun hk=>absurd (h1.lt _ hk) (Nat.lt_irrefl _)) _).setCell (fun hk=>absurd (h1.lt _ hk) (Nat.lt_irrefl _)) _).setCell (fun hk=>absurd (h1.lt _ hk) (Nat.lt_irrefl _)) _).setCell (fun hk=>absurd (h1.lt _ hk) (Nat.lt_irrefl _)) _)
   have h3:=hs2.elsewhere (w':=(((((w2.setCell ⟨w1.heap.size,0,none⟩ (.bool true)).setCell ⟨w1.heap.size,1,none⟩ (.int .u8 (hdOf L).ty)).setCell ⟨w1.heap.size,2,none⟩ (.int .u8 (hdOf L).fl)).setCell ⟨w1.heap.size,3,none⟩ (.int .u32 (hdOf L).ln)).setCell ⟨w1.heap.size,4,none⟩ (.int .u32 (hdOf L).st))) (q:=w1.heap.size) ((((((K1 w1.heap.size w2).setCell (fun hk=>absurd rfl hk) _).setCell (fun hk=>absurd rfl hk) _).setCell (fun hk=>absurd rfl hk) _).setCell (fun hk=>absurd rfl hk) _).setCell (fun hk=>absurd rfl hk) _) (by omega) (by omega) (Nat.ne_of_lt (lt_of_block h1.C)) (fun e=>(h1.rbLt e)) (fun e=>(h1.lfLt e)) (fun hk=>absurd (h1.lt _ hk) (Nat.lt_irrefl _)) (by have:=h1.BF;omega)
   have hne4:w1.heap.size≠w.heap.size:=by omega
   generalize (((((w2.setCell ⟨w1.heap.size,0,none⟩ (.bool true)).setCell ⟨w1.heap.size,1,none⟩ (.int .u8 (hdOf L).ty)).setCell ⟨w1.heap.size,2,none⟩ (.int .u8 (hdOf L).fl)).setCell ⟨w1.heap.size,3,none⟩ (.int .u32 (hdOf L).ln)).setCell ⟨w1.heap.size,4,none⟩ (.int .u32 (hdOf L).st))=w3 at *
   have hqF:w1.heap.size≠bF:=by omega
   generalize w1.heap.size=q at *
   clear hh1 hh2 hd1 hd2 hend hs2 c0 c2 h1 bz kk1 k2
   obtain ⟨z0,z1,z2,z3,z4,-⟩:=five b4
   have k6:=(blk_cell h3.F 6).trans h3.fs.c6
   have hBF:=h3.BF
   have h4:=h3.drawnR
   go_wp2
   go_quiet (fail)
   clear z0 z1 z2 z3 z4 k6
   go_wp2_with (first
     | (go_at_call 81;refine (order_any (h4 nq).F h3.fs _ _ _ _ hfl.1 hfl.2).mono ?_;rintro e w5 hE;obtain ⟨rfl,hend5⟩:=hE.good hob;have b45:=hend5.kept.at (show q≠bF from hqF) (blk_drh b4 _);have bq5:=hend5.kept.at (show w.heap.size≠bF by omega) (blk_drh bq _))
     | (refine wpList_load_blk rfl _ _ rfl q rfl _ 113 (blk_drh b4 _) Tryz.underlying113 infoH ?_)
     | (refine wpList_load_blk rfl _ _ rfl q rfl _ 113 b45 Tryz.underlying113 infoH ?_)
     | (refine wpList_store_blk rfl _ _ _ rfl w.heap.size rfl _ _ rfl 113 bq5 rfl infoH (by simp [Value.oneCell']) ?_;intro w6 b6 k6))
   refine ret_blk2 rfl w.heap.size _ _ rfl b6 Tryz.underlying113 infoH rfl ⟨rfl,?_,?_⟩
   · exact ((k3.drawn nq).trans (hend5.onK h.kF)).trans (k6.onK fun k hk e=>hKq (e▸hk))
   · obtain ⟨cs7,h7⟩:=(h4 nq).fend hend5 (nextO_0 h.o0 hdOf_st0)
     exact ⟨cs7,_,_,h7.elsewhere k6 (Nat.ne_of_lt hq) (Nat.ne_of_lt hq2) (Nat.ne_of_lt (lt_of_block h.C)) (fun e=>h.rbLt e) (fun e=>h.lfLt e) hKq (by omega)⟩
end
end Go.Proofs.YtfdlbjibninakaaGreatDoor

namespace Go.Proofs.YtfdlbjibninakaaGreatDoor
set_option maxRecDepth 10000
set_option maxHeartbeats 8000000
open Go.RowKit
theorem mk5u (n:Nat) (hn:n≤16777216) (w:World) :
   (Instr.makeSlice 22 (.int .u32 (n:Int)) (.int .u32 (n:Int))).run Tryz.prog w = .ok (.slice (some ⟨w.heap.size,0,none⟩) n n) (w.alloc (.cells (zB n) 5)):=by
 obtain ⟨i0,hi,hz0,hz1,hz2⟩:=info_parts E5.info
 have:=run_make (P:=Tryz.prog) w 22 5 i0 _ E5.sl hi hz0 .u32 .u32 (n:Int) (n:Int) (by omega) (by omega) (by rw [hz2];omega) (by omega)
 rw [hz1] at this
 simpa [zB,Value.cells] using this
section
variable {B : Nat} {K : Nat → Prop} {aE aU aT : Addr} {w w' : World} {bF cl bR : Nat} {m o o' : Int} {L L' ps : List Int} {cs cs' : Array Value} {lf rb rest rest' pcs : Value} {at' at'' : Nat}
def PlOk (K:Nat→Prop) (w:World) (rb:Value) (n:Nat) (pl:Value):Prop:=
 (n=0 ∧ ∃a c,pl = .slice a 0 c∧c≤maxLen) ∨ ∃g n' cap bc,pl = .slice (some ⟨g,0,none⟩) n cap∧rb = .slice (some ⟨g,0,none⟩) n' cap∧w.heap[g]? = some (.cells bc 5 (0,0))∧bc.size=cap∧n≤cap∧cap≤16777216 ∧ ¬K g
def BufEnd (B:Nat) (K:Nat→Prop) (aE aU aT:Addr) (w:World) (bF cl bR:Nat) (m o:Int) (L ps:List Int) (lf rest pcs:Value) (at' n:Nat) (e:Ending) (w':World):Prop:=
 ∃pl,e = .returned pl∧Kept K w w' ∧ ∃cs' rb',RSt B K aE aU aT w' bF cl bR m o L ps cs' lf rb' rest pcs at'∧PlOk K w' rb' n pl
theorem RSt.newRb (h:RSt B K aE aU aT w bF cl bR m o L ps cs lf rb rest pcs at') (n:Nat) (hn:n≤16777216) :
   RSt B K aE aU aT ((w.alloc (.cells (zB n) 5)).setCell ⟨bF,17,none⟩ (.slice (some ⟨w.heap.size,0,none⟩) n n)) bF cl bR m o L ps (cs.setIfInBounds 17 (.slice (some ⟨w.heap.size,0,none⟩) n n)) lf (.slice (some ⟨w.heap.size,0,none⟩) n n) rest pcs at':=by
 have hk:Kept (· ≠ bF) w ((w.alloc (.cells (zB n) 5)).setCell ⟨bF,17,none⟩ (.slice (some ⟨w.heap.size,0,none⟩) n n)):=((Kept.refl _ w).alloc _).setCell (fun h=>absurd rfl h) _
 have hkk:=hk.onK (K:=K) fun k hk e=>h.kF (e▸hk)
 have hB:=h.BF
 exact ⟨h.V.kept hk (fun k hk=>by omega),blk_set (blk_alloc h.F) 17 _,h.fs.setRb _,hk.at (Ne.symm h.FC) h.C,⟨hk.at (Ne.symm h.FR) h.R.R,h.R.rest.kept hkk h.rk,h.R.pcs.kept hkk h.pk,h.R.lim⟩,h.lim,h.bs,h.rk0,h.pk0,
   .inr ⟨w.heap.size,n,n,zB n,rfl,blk_set_other (blk_new w _) (Ne.symm (Nat.ne_of_lt (lt_of_block h.F))) _,zB_size n,Nat.le_refl _,hn,fun hk=>absurd (h.lt _ hk) (Nat.lt_irrefl _)⟩,h.lf.kept hk (fun T p e=>(h.lfNe e).1),h.kF,h.kC,h.kR,fun k hk2=>Nat.lt_of_lt_of_le (h.lt k hk2) hk.size,h.gl,h.o0,h.m0,h.m1⟩
theorem getBuf_any (h:RSt B K aE aU aT w bF cl bR m o L ps cs lf rb rest pcs at') (n:Nat) (hn:n≤16777215) :
   Calls Tryz.prog 45 #[.int .u32 (n:Int),.pointer (some ⟨cl,0,none⟩)] w (BufEnd B K aE aU aT w bF cl bR m o L ps lf rest pcs at' n):=by
 have c0:=blk_cell h.C 0
 have c17:=(blk_cell h.F 17).trans h.fs.c17
 have f17:=blk_free h.F 17
 have c0':w.cell? ⟨cl,0,none⟩=some (.pointer (some ⟨bF,0,none⟩)):=c0
 clear c0
 rcases h.rb with rfl|⟨g,n',cap,bc,rfl,h1,h2,h3,h4,h5⟩
 · by_cases h0:n=0
   · subst h0
     go_enter Tryz.func45,Tryz.ntmps45
     go_wp2
     go_ret
     exact ⟨_,rfl,Kept.refl _ _,_,_,h,.inl ⟨rfl,_,_,rfl,Nat.zero_le _⟩⟩
   · have hmk:=mk5u n (by omega)
     have k17:=(blk_cell (blk_alloc (p:=.cells (zB n) 5) h.F) 17).trans h.fs.c17
     have kf17:=blk_free (blk_alloc (p:=.cells (zB n) 5) h.F) 17
     have kc0:(w.alloc (.cells (zB n) 5)).cell? ⟨cl,0,none⟩=some (.pointer (some ⟨bF,0,none⟩)):=blk_cell (blk_alloc h.C) 0
     have hFC:=h.FC
     have hCF:=Ne.symm h.FC
     have hnew:=h.newRb n (by omega)
     go_enter Tryz.func45,Tryz.ntmps45
     go_wp2
     go_region
     all_goals
       go_wp2
       go_ret
       exact ⟨_,rfl,(((Kept.refl _ w).alloc _).setCell (fun hk=>absurd hk h.kF) _).drew,_,_,hnew.drew,.inr ⟨w.heap.size,n,n,zB n,rfl,rfl,blk_drw (blk_set_other (blk_new w _) (Ne.symm (Nat.ne_of_lt (lt_of_block h.F))) _),zB_size n,Nat.le_refl _,by omega,fun hk=>absurd (h.lt _ hk) (Nat.lt_irrefl _)⟩⟩
 · by_cases hc:n≤cap
   · go_enter Tryz.func45,Tryz.ntmps45
     go_wp2
     go_ret
     exact ⟨_,rfl,Kept.refl _ _,_,_,h,.inr ⟨g,n',cap,bc,rfl,rfl,h1,h2,hc,h4,h5⟩⟩
   · have hmk:=mk5u n (by omega)
     have k17:=(blk_cell (blk_alloc (p:=.cells (zB n) 5) h.F) 17).trans h.fs.c17
     have kf17:=blk_free (blk_alloc (p:=.cells (zB n) 5) h.F) 17
     have kc0:(w.alloc (.cells (zB n) 5)).cell? ⟨cl,0,none⟩=some (.pointer (some ⟨bF,0,none⟩)):=blk_cell (blk_alloc h.C) 0
     have hFC:=h.FC
     have hCF:=Ne.symm h.FC
     have hnew:=h.newRb n (by omega)
     go_enter Tryz.func45,Tryz.ntmps45
     go_wp2
     go_region
     all_goals
       go_wp2
       go_ret
       exact ⟨_,rfl,(((Kept.refl _ w).alloc _).setCell (fun hk=>absurd hk h.kF) _).drew,_,_,hnew.drew,.inr ⟨w.heap.size,n,n,zB n,rfl,rfl,blk_drw (blk_set_other (blk_new w _) (Ne.symm (Nat.ne_of_lt (lt_of_block h.F))) _),zB_size n,Nat.le_refl _,by omega,fun hk=>absurd (h.lt _ hk) (Nat.lt_irrefl _)⟩⟩
end
end Go.Proofs.YtfdlbjibninakaaGreatDoor

/- Reading: the framer's ReadFrameHeader. -/
import Derived.Test.YtfdlbjibninakaaGreatDoorFs
import Derived.Laws.StructEq
set_option linter.unusedVariables false
set_option linter.unusedSimpArgs false
namespace Go.Proofs.YtfdlbjibninakaaGreatDoor
set_option maxRecDepth 10000
set_option maxHeartbeats 8000000
open Go.RowKit
theorem fieldsH:Tryz.prog.underlying 113=some (.struct (Tryz.prog.fieldsOf 113)):=by kernel_rfl
theorem stoodH:Tryz.prog.stoodInHeld 113=false:=by kernel_rfl
theorem eql_hd (ty fl ln st:Int):∃b,∀w,(binOp .eql 113 (hdV ty fl ln st) (hdV 80 47 4740180 825110816)).run Tryz.prog w = .ok (.bool b) w:=by
 have huT:Tryz.prog.underlying 79=some (.int .u8):=by kernel_rfl
 have huF:Tryz.prog.underlying 111=some (.int .u8):=by kernel_rfl
 have hu32:Tryz.prog.underlying 26=some (.int .u32):=Tryz.underlying26
 have hub:Tryz.prog.underlying 4=some .bool:=by kernel_rfl
 cases h1:ty==80<;>cases h2:fl==47<;>cases h3:ln==4740180<;>cases h4:st==825110816<;>exact ⟨_,fun w=>by rw [run_eql_struct,show (10000:Nat)=9999+1 from rfl,run_equalIn_struct w 9999 113 _ _ fieldsH stoodH];unfold Program.fieldsOf;rw [Tryz.underlying113];simp [Op.eqFields,part,run_equalIn_int w 9998 _ _ .u8 _ _ huT,run_equalIn_int w 9998 _ _ .u8 _ _ huF,run_equalIn_int w 9998 _ _ .u32 _ _ hu32,run_equalIn_bool w 9998 _ _ _ hub,h1,h2,h3,h4];rfl⟩
theorem blk_drw {w:World} {b:Nat} {o:Obj} (h:w.heap[b]? = some o):w.drew.heap[b]? = some o:=h
theorem invalid_any (w:World):Calls Tryz.prog 80 #[] w fun e w'=>e = .returned (hdV 80 47 4740180 825110816)∧w.alloc (.cells #[.bool true,.int .u8 80,.int .u8 47,.int .u32 4740180,.int .u32 825110816] 113)=w':=by
 go_enter Tryz.func80,Tryz.ntmps80
 go_wp2
 exact bodyPost_ret (v:=hdV 80 47 4740180 825110816) (by simp [results,Tryz.results80,go_sem]) rfl ⟨rfl,rfl⟩
section
variable {B : Nat} {K : Nat → Prop} {aE aU aT : Addr} {w w' : World} {bF cl bR : Nat} {m o o' : Int} {L L' ps : List Int} {cs cs' : Array Value} {lf rb rest rest' pcs : Value} {at' at'' : Nat}
theorem RSt.set2 (h:RSt B K aE aU aT w bF cl bR m o L ps cs lf rb rest pcs at') (v:Value):RSt B K aE aU aT (w.setCell ⟨bF,2,none⟩ v) bF cl bR m o L ps (cs.setIfInBounds 2 v) lf rb rest pcs at':=by
 have hk:Kept (· ≠ bF) w (w.setCell ⟨bF,2,none⟩ v):=(Kept.refl _ w).setCell (fun h=>absurd rfl h) _
 have hkk:Kept K w (w.setCell ⟨bF,2,none⟩ v):=hk.onK fun k hk e=>h.kF (e▸hk)
 exact h.step (hk.mono fun k h _=>h.2) (blk_set h.F 2 _) (h.fs.set (.inl rfl) _) ⟨hk.at (Ne.symm h.FR) h.R.R,h.R.rest.kept hkk h.rk,h.R.pcs.kept hkk h.pk,h.R.lim⟩ h.lim h.bs h.rk0 h.o0
theorem GV.drew (h:GV B w aE aU aT):GV B w.drew aE aU aT:=⟨h.e,h.u,h.t,h.et,h.be,h.bu,h.bt,h.eu,h.et',h.ut,h.ge,h.le,h.lu,h.lt⟩
theorem RdS.drew (h:RdS w bR rest pcs at' L ps):RdS w.drew bR rest pcs at' L ps:=⟨h.R,h.rest,h.pcs,h.lim⟩
theorem RSt.drew (h:RSt B K aE aU aT w bF cl bR m o L ps cs lf rb rest pcs at'):RSt B K aE aU aT w.drew bF cl bR m o L ps cs lf rb rest pcs at':=h.below ((Kept.refl (· < w.heap.size) w).drew.below (Nat.le_refl _))
theorem five {b:Nat} {v0 v1 v2 v3 v4:Value} {t:TypeId} (h:w.heap[b]? = some (.cells #[v0,v1,v2,v3,v4] t (0,0))) :
   w.cell? ⟨b,0,none⟩=some v0∧w.cell? ⟨b,1,none⟩=some v1∧w.cell? ⟨b,2,none⟩=some v2∧w.cell? ⟨b,3,none⟩=some v3∧w.cell? ⟨b,4,none⟩=some v4 ∧
   w.frozen? ⟨b,0,none⟩=false∧w.frozen? ⟨b,1,none⟩=false∧w.frozen? ⟨b,2,none⟩=false∧w.frozen? ⟨b,3,none⟩=false∧w.frozen? ⟨b,4,none⟩=false:=
 ⟨blk_cell h 0,blk_cell h 1,blk_cell h 2,blk_cell h 3,blk_cell h 4,blk_free h 0,blk_free h 1,blk_free h 2,blk_free h 3,blk_free h 4⟩
theorem RdEnd.blkOf {g off n:Nat} {t:TypeId} (h:RdEnd w bR rest pcs at' L ps g off n cs t w') {b:Nat} {ob:Obj} (hb:w.heap[b]? = some ob) (h1:b≠bR) (h2:b≠g):w'.heap[b]? = some ob:=by
 obtain ⟨a,r,c,-,-,-,-,h5,-⟩:=h
 exact h5.at ⟨h1,h2⟩ hb
theorem K1 (q:Nat) (w:World):Kept (· ≠ q) w w:=Kept.refl _ w
theorem RSt.rbLt (h:RSt B K aE aU aT w bF cl bR m o L ps cs lf rb rest pcs at') {g n c:Nat} (e:rb = .slice (some ⟨g,0,none⟩) n c):g<w.heap.size:=by
 rcases h.rb with h1|⟨g',n',cap,bc,e',h1,-⟩
 · rw [h1] at e;cases e
 · rw [e'] at e;cases e;exact lt_of_block h1
theorem RSt.lfLt (h:RSt B K aE aU aT w bF cl bR m o L ps cs lf rb rest pcs at') {T p:Nat} (e:lf = .iface T (.pointer (some ⟨p,0,none⟩))):p<w.heap.size:=by
 rcases h.lf with h1|⟨T',p',c,t,v,e',h0,h1,-⟩
 · rw [h1] at e;cases e
 · rw [e'] at e;cases e;exact lt_of_block h1
theorem RSt.elsewhere (h:RSt B K aE aU aT w bF cl bR m o L ps cs lf rb rest pcs at') {q:Nat} (hk:Kept (· ≠ q) w w') (hF:bF≠q) (hR:bR≠q) (hC:cl≠q) (hrb:∀{g n c:Nat},rb = .slice (some ⟨g,0,none⟩) n c→g<q) (hlf:∀{T p:Nat},lf = .iface T (.pointer (some ⟨p,0,none⟩))→p<q) (hKq:¬K q) (hB:B≤q) :
   RSt B K aE aU aT w' bF cl bR m o L ps cs lf rb rest pcs at':=by
 have hkk:Kept K w w':=hk.onK fun k h e=>hKq (e▸h)
 exact ⟨h.V.kept hk (fun k hk=>by omega),hk.at hF h.F,h.fs,hk.at hC h.C,⟨hk.at hR h.R.R,h.R.rest.kept hkk h.rk,h.R.pcs.kept hkk h.pk,h.R.lim⟩,h.lim,h.bs,h.rk0,h.pk0,h.rb.kept hk (fun g n c e=>Nat.ne_of_lt (hrb e)),h.lf.kept hk (fun T p e=>Nat.ne_of_lt (hlf e)),h.kF,h.kC,h.kR,fun k hkk=>Nat.lt_of_lt_of_le (h.lt k hkk) hk.size,h.gl,h.o0,h.m0,h.m1⟩
def HBad (aE aU aT:Addr) (K:Nat→Prop) (w:World) (f c:Int) (e:Ending) (w':World):Prop:=(∃b ty fl ln st,e = .returned (.tuple #[.agg #[.bool b,.int .u8 ty,.int .u8 fl,.int .u32 ln,.int .u32 st],errV aE aU aT f c 0]))∧Kept K w w'
theorem errV_large:errV aE aU aT 3 0 0 = .iface 251 (.pointer (some aT)):=by simp [errV]
theorem errV_conn (c:Int):errV aE aU aT 4 c 0 = .iface 117 (.int .u32 c):=by simp [errV]
def cutF (L:List Int):Int:=if L.length=0 then 1 else 2
theorem errV_cut (ae:Addr) (h:CutErr aE aU L ae):errV aE aU aT (cutF L) 0 0 = .iface 251 (.pointer (some ae)):=by
 unfold CutErr at h
 unfold cutF
 subst h
 by_cases h0:L.length=0
 · simp [h0,errV]
 · simp [h0,errV]
theorem hdr_cut (h:RSt B K aE aU aT w bF cl bR m o L ps cs lf rb rest pcs at') (hL:¬9≤L.length):Calls Tryz.prog 46 #[.pointer (some ⟨bF,0,none⟩)] w (HBad aE aU aT K w (cutF L) 0):=by
 obtain ⟨v2,hv2⟩:=h.fs.some (i:=2) (by omega)
 have k2:=(blk_cell (blk_alloc (p:=.cells #[.bool false,.int .u8 0,.int .u8 0,.int .u32 0,.int .u32 0] 113) h.F) 2).trans hv2
 have f2:=blk_free (blk_alloc (p:=.cells #[.bool false,.int .u8 0,.int .u8 0,.int .u32 0,.int .u32 0] 113) h.F) 2
 have h0:=h.set2 .nilIface
 have h1:=h0.below (w':=((w.setCell ⟨bF,2,none⟩ .nilIface).alloc (.cells #[.bool false,.int .u8 0,.int .u8 0,.int .u32 0,.int .u32 0] 113))) (((K0 _).alloc _).below (Nat.le_refl _))
 have bz:=blk_at (n:=w.heap.size) (w.setCell ⟨bF,2,none⟩ .nilIface) (.cells #[.bool false,.int .u8 0,.int .u8 0,.int .u32 0,.int .u32 0] 113) (by simp)
 have hq:bF<w.heap.size:=lt_of_block h.F
 have hq2:bR<w.heap.size:=lt_of_block h.R.R
 have kk1:Kept K w ((w.setCell ⟨bF,2,none⟩ .nilIface).alloc (.cells #[.bool false,.int .u8 0,.int .u8 0,.int .u32 0,.int .u32 0] 113)):=((Kept.refl _ w).setCell (fun hk=>absurd hk h.kF) _).alloc _
 have hKq:¬K w.heap.size:=fun hk=>absurd (h.lt _ hk) (Nat.lt_irrefl _)
 clear h0
 go_enter Tryz.func46,Tryz.ntmps46
 go_wp2
 clear k2 f2 hv2
 generalize ((w.setCell ⟨bF,2,none⟩ .nilIface).alloc (.cells #[.bool false,.int .u8 0,.int .u8 0,.int .u32 0,.int .u32 0] 113))=w1 at *
 have c0:=(blk_cell h1.F 0).trans h1.fs.c0
 have hzl:w.heap.size<w1.heap.size:=lt_of_block bz
 have hd1:=h1.drew
 have hd2:=(h1.below (w':=w1.alloc (.cells #[.bool false,.int .u8 0,.int .u8 0,.int .u32 0,.int .u32 0] 113)) (((K0 _).alloc _).below (Nat.le_refl _))).drew
 have hh1:=readFrameHeader_cut (w:=w1.drew) hd1.V hd1.R hd1.lim hd1.F (off:=7) (by rw [hd1.fs.size];decide) hd1.FR (hd1.rkR hd1.kF) (hd1.pkR hd1.kF) hd1.BR hd1.BF (inK.mono hd1.rk hd1.lt) (inK.mono hd1.pk hd1.lt) hL
 have hh2:=readFrameHeader_cut (w:=(w1.alloc (.cells #[.bool false,.int .u8 0,.int .u8 0,.int .u32 0,.int .u32 0] 113)).drew) hd2.V hd2.R hd2.lim hd2.F (off:=7) (by rw [hd2.fs.size];decide) hd2.FR (hd2.rkR hd2.kF) (hd2.pkR hd2.kF) hd2.BR hd2.BF (inK.mono hd2.rk hd2.lt) (inK.mono hd2.pk hd2.lt) hL
 have hlR:=lt_of_block h1.R.R
 have hlF1:=lt_of_block h1.F
 have hneF:¬bF=w1.heap.size:=by omega
 have hneF2:¬w1.heap.size=bF:=by omega
 go_region_held3 (fun w'=>w'.cell? ⟨bF,0,none⟩=some (.iface 69 (.pointer (some ⟨bR,0,none⟩)))) (go_keep) (first
   | (go_at_call 79;(with_reducible refine hh1.mono ?_);rintro e w2 ⟨⟨ae,rfl,hae⟩,hend⟩;obtain ⟨cs2,rest2,at2,hs2⟩:=hd1.rdHead hend;have k2:=hd1.keptHead hend;have c2:=(blk_cell hs2.F 0).trans hs2.fs.c0)
   | (go_at_call 79;(with_reducible refine hh2.mono ?_);rintro e w2 ⟨⟨ae,rfl,hae⟩,hend⟩;obtain ⟨cs2,rest2,at2,hs2⟩:=hd2.rdHead hend;have k2:=hd2.keptHead hend;have c2:=(blk_cell hs2.F 0).trans hs2.fs.c0;obtain ⟨q0,q1,q2,q3,q4,r0,r1,r2,r3,r4⟩:=five (hend.blkOf (blk_new w1 _) (by omega) (by omega))))
 · have b4:=blk_new w2 (.cells #[.bool false,.int .u8 0,.int .u8 0,.int .u32 0,.int .u32 0] 113)
   have bq:=blk_alloc (p:=.cells #[.bool false,.int .u8 0,.int .u8 0,.int .u32 0,.int .u32 0] 113) (hend.blkOf (w:=w1.drew) bz (by omega) (by omega))
   have k3:Kept K w (w2.alloc (.cells #[.bool false,.int .u8 0,.int .u8 0,.int .u32 0,.int .u32 0] 113)):=(kk1.trans (Kept.undrew k2)).alloc _
   have h3:=hs2.below (w':=w2.alloc (.cells #[.bool false,.int .u8 0,.int .u8 0,.int .u32 0,.int .u32 0] 113)) (((K0 _).alloc _).below (Nat.le_refl _))
   have hne4:w2.heap.size≠w.heap.size:=by have:=lt_of_block (hend.blkOf (w:=w1.drew) bz (by omega) (by omega));omega
   generalize w2.alloc (.cells #[.bool false,.int .u8 0,.int .u8 0,.int .u32 0,.int .u32 0] 113)=w3 at *
   generalize w2.heap.size=q at *
   clear hh1 hh2 hd1 hd2 hend hs2 c0 c2 h1 bz kk1 k2
   go_wp2_with (first|(refine wpList_load_blk rfl _ _ rfl q rfl _ 113 b4 Tryz.underlying113 infoH ?_)|(refine wpList_store_blk rfl _ _ _ rfl w.heap.size rfl _ _ rfl 113 bq rfl infoH (by simp [Value.oneCell']) ?_;intro w5 b5 k5))
   refine ret_blk2 rfl w.heap.size _ _ rfl b5 Tryz.underlying113 infoH rfl ⟨⟨_,_,_,_,_,by rw [errV_cut ae hae];rfl⟩,k3.trans (k5.onK fun k hk e=>hKq (e▸hk))⟩
 · have b4:(((((w2.setCell ⟨w1.heap.size,0,none⟩ (.bool false)).setCell ⟨w1.heap.size,1,none⟩ (.int .u8 0)).setCell ⟨w1.heap.size,2,none⟩ (.int .u8 0)).setCell ⟨w1.heap.size,3,none⟩ (.int .u32 0)).setCell ⟨w1.heap.size,4,none⟩ (.int .u32 0)).heap[w1.heap.size]? = some (.cells #[.bool false,.int .u8 0,.int .u8 0,.int .u32 0,.int .u32 0] 113 (0,0)):=(blk_set (blk_set (blk_set (blk_set (blk_set (hend.blkOf (blk_new w1 _) (by omega) (by omega)) 0 _) 1 _) 2 _) 3 _) 4 _)
   have bq:(((((w2.setCell ⟨w1.heap.size,0,none⟩ (.bool false)).setCell ⟨w1.heap.size,1,none⟩ (.int .u8 0)).setCell ⟨w1.heap.size,2,none⟩ (.int .u8 0)).setCell ⟨w1.heap.size,3,none⟩ (.int .u32 0)).setCell ⟨w1.heap.size,4,none⟩ (.int .u32 0)).heap[w.heap.size]? = some (.cells #[.bool false,.int .u8 0,.int .u8 0,.int .u32 0,.int .u32 0] 113):=(blk_set_other (blk_set_other (blk_set_other (blk_set_other (blk_set_other (hend.blkOf (w:=(w1.alloc (.cells #[.bool false,.int .u8 0,.int .u8 0,.int .u32 0,.int .u32 0] 113)).drew) (blk_alloc (w:=w1) bz) (by omega) (by omega)) (by simp;omega) _) (by simp;omega) _) (by simp;omega) _) (by simp;omega) _) (by simp;omega) _)
   have k3:Kept K w (((((w2.setCell ⟨w1.heap.size,0,none⟩ (.bool false)).setCell ⟨w1.heap.size,1,none⟩ (.int .u8 0)).setCell ⟨w1.heap.size,2,none⟩ (.int .u8 0)).setCell ⟨w1.heap.size,3,none⟩ (.int .u32 0)).setCell ⟨w1.heap.size,4,none⟩ (.int .u32 0)):=((((((kk1.trans ((((Kept.refl K w1).alloc _).drew).trans k2)).setCell (fun hk=>absurd (h1.lt _ hk) (Nat.lt_irrefl _)) _).setCell (fun hk=>absurd (h1.lt _ hk) (Nat.lt_irrefl _)) _).setCell (fun hk=>absurd (h1.lt _ hk) (Nat.lt_irrefl _)) _).setCell (fun hk=>absurd (h1.lt _ hk) (Nat.lt_irrefl _)) _).setCell (fun hk=>absurd (h1.lt _ hk) (Nat.lt_irrefl _)) _)
   have h3:=hs2.elsewhere (w':=(((((w2.setCell ⟨w1.heap.size,0,none⟩ (.bool false)).setCell ⟨w1.heap.size,1,none⟩ (.int .u8 0)).setCell ⟨w1.heap.size,2,none⟩ (.int .u8 0)).setCell ⟨w1.heap.size,3,none⟩ (.int .u32 0)).setCell ⟨w1.heap.size,4,none⟩ (.int .u32 0))) (q:=w1.heap.size) ((((((K1 w1.heap.size w2).setCell (fun hk=>absurd rfl hk) _).setCell (fun hk=>absurd rfl hk) _).setCell (fun hk=>absurd rfl hk) _).setCell (fun hk=>absurd rfl hk) _).setCell (fun hk=>absurd rfl hk) _) (by omega) (by omega) (Nat.ne_of_lt (lt_of_block h1.C)) (fun e=>(h1.rbLt e)) (fun e=>(h1.lfLt e)) (fun hk=>absurd (h1.lt _ hk) (Nat.lt_irrefl _)) (by have:=h1.BF;omega)
   have hne4:w1.heap.size≠w.heap.size:=by omega
   generalize (((((w2.setCell ⟨w1.heap.size,0,none⟩ (.bool false)).setCell ⟨w1.heap.size,1,none⟩ (.int .u8 0)).setCell ⟨w1.heap.size,2,none⟩ (.int .u8 0)).setCell ⟨w1.heap.size,3,none⟩ (.int .u32 0)).setCell ⟨w1.heap.size,4,none⟩ (.int .u32 0))=w3 at *
   generalize w1.heap.size=q at *
   clear hh1 hh2 hd1 hd2 hend hs2 c0 c2 h1 bz kk1 k2
   go_wp2_with (first|(refine wpList_load_blk rfl _ _ rfl q rfl _ 113 b4 Tryz.underlying113 infoH ?_)|(refine wpList_store_blk rfl _ _ _ rfl w.heap.size rfl _ _ rfl 113 bq rfl infoH (by simp [Value.oneCell']) ?_;intro w5 b5 k5))
   refine ret_blk2 rfl w.heap.size _ _ rfl b5 Tryz.underlying113 infoH rfl ⟨⟨_,_,_,_,_,by rw [errV_cut ae hae];rfl⟩,k3.trans (k5.onK fun k hk e=>hKq (e▸hk))⟩
theorem hdr_large (h:RSt B K aE aU aT w bF cl bR m o L ps cs lf rb rest pcs at') (hL:9≤L.length) (hm:m<(hdOf L).ln):Calls Tryz.prog 46 #[.pointer (some ⟨bF,0,none⟩)] w (HBad aE aU aT K w 3 0):=by
 have hgt:(hdOf L).ln>m:=hm
 obtain ⟨v2,hv2⟩:=h.fs.some (i:=2) (by omega)
 have k2:=(blk_cell (blk_alloc (p:=.cells #[.bool false,.int .u8 0,.int .u8 0,.int .u32 0,.int .u32 0] 113) h.F) 2).trans hv2
 have f2:=blk_free (blk_alloc (p:=.cells #[.bool false,.int .u8 0,.int .u8 0,.int .u32 0,.int .u32 0] 113) h.F) 2
 have h0:=h.set2 .nilIface
 have h1:=h0.below (w':=((w.setCell ⟨bF,2,none⟩ .nilIface).alloc (.cells #[.bool false,.int .u8 0,.int .u8 0,.int .u32 0,.int .u32 0] 113))) (((K0 _).alloc _).below (Nat.le_refl _))
 have bz:=blk_at (n:=w.heap.size) (w.setCell ⟨bF,2,none⟩ .nilIface) (.cells #[.bool false,.int .u8 0,.int .u8 0,.int .u32 0,.int .u32 0] 113) (by simp)
 have hq:bF<w.heap.size:=lt_of_block h.F
 have hq2:bR<w.heap.size:=lt_of_block h.R.R
 have kk1:Kept K w ((w.setCell ⟨bF,2,none⟩ .nilIface).alloc (.cells #[.bool false,.int .u8 0,.int .u8 0,.int .u32 0,.int .u32 0] 113)):=((Kept.refl _ w).setCell (fun hk=>absurd hk h.kF) _).alloc _
 have hKq:¬K w.heap.size:=fun hk=>absurd (h.lt _ hk) (Nat.lt_irrefl _)
 clear h0
 go_enter Tryz.func46,Tryz.ntmps46
 go_wp2
 clear k2 f2 hv2
 generalize ((w.setCell ⟨bF,2,none⟩ .nilIface).alloc (.cells #[.bool false,.int .u8 0,.int .u8 0,.int .u32 0,.int .u32 0] 113))=w1 at *
 have c0:=(blk_cell h1.F 0).trans h1.fs.c0
 have hzl:w.heap.size<w1.heap.size:=lt_of_block bz
 have hd1:=h1.drew
 have hd2:=(h1.below (w':=w1.alloc (.cells #[.bool false,.int .u8 0,.int .u8 0,.int .u32 0,.int .u32 0] 113)) (((K0 _).alloc _).below (Nat.le_refl _))).drew
 have hh1:=readFrameHeader_ok (w:=w1.drew) hd1.V hd1.R hd1.bs hd1.lim hd1.F (off:=7) (by rw [hd1.fs.size];decide) hd1.FR (hd1.rkR hd1.kF) (hd1.pkR hd1.kF) hd1.BR hd1.BF (inK.mono hd1.rk hd1.lt) (inK.mono hd1.pk hd1.lt) hL
 have hh2:=readFrameHeader_ok (w:=(w1.alloc (.cells #[.bool false,.int .u8 0,.int .u8 0,.int .u32 0,.int .u32 0] 113)).drew) hd2.V hd2.R hd2.bs hd2.lim hd2.F (off:=7) (by rw [hd2.fs.size];decide) hd2.FR (hd2.rkR hd2.kF) (hd2.pkR hd2.kF) hd2.BR hd2.BF (inK.mono hd2.rk hd2.lt) (inK.mono hd2.pk hd2.lt) hL
 have hlR:=lt_of_block h1.R.R
 have hlF1:=lt_of_block h1.F
 have hneF:¬bF=w1.heap.size:=by omega
 have hneF2:¬w1.heap.size=bF:=by omega
 go_region_held3 (fun w'=>w'.cell? ⟨bF,0,none⟩=some (.iface 69 (.pointer (some ⟨bR,0,none⟩)))) (go_keep) (first
   | (go_at_call 79;(with_reducible refine hh1.mono ?_);rintro e w2 ⟨rfl,hend⟩;obtain ⟨cs2,rest2,at2,hs2⟩:=hd1.rdHead hend;have k2:=hd1.keptHead hend;have c2:=(blk_cell hs2.F 0).trans hs2.fs.c0)
   | (go_at_call 79;(with_reducible refine hh2.mono ?_);rintro e w2 ⟨rfl,hend⟩;obtain ⟨cs2,rest2,at2,hs2⟩:=hd2.rdHead hend;have k2:=hd2.keptHead hend;have c2:=(blk_cell hs2.F 0).trans hs2.fs.c0;obtain ⟨q0,q1,q2,q3,q4,r0,r1,r2,r3,r4⟩:=five (hend.blkOf (blk_new w1 _) (by omega) (by omega))))
 · have b4:=blk_new w2 (.cells #[.bool true,.int .u8 (hdOf L).ty,.int .u8 (hdOf L).fl,.int .u32 (hdOf L).ln,.int .u32 (hdOf L).st] 113)
   have bq:=blk_alloc (p:=.cells #[.bool true,.int .u8 (hdOf L).ty,.int .u8 (hdOf L).fl,.int .u32 (hdOf L).ln,.int .u32 (hdOf L).st] 113) (hend.blkOf (w:=w1.drew) bz (by omega) (by omega))
   have k3:Kept K w (w2.alloc (.cells #[.bool true,.int .u8 (hdOf L).ty,.int .u8 (hdOf L).fl,.int .u32 (hdOf L).ln,.int .u32 (hdOf L).st] 113)):=(kk1.trans (Kept.undrew k2)).alloc _
   have h3:=hs2.below (w':=w2.alloc (.cells #[.bool true,.int .u8 (hdOf L).ty,.int .u8 (hdOf L).fl,.int .u32 (hdOf L).ln,.int .u32 (hdOf L).st] 113)) (((K0 _).alloc _).below (Nat.le_refl _))
   have hne4:w2.heap.size≠w.heap.size:=by have:=lt_of_block (hend.blkOf (w:=w1.drew) bz (by omega) (by omega));omega
   generalize w2.alloc (.cells #[.bool true,.int .u8 (hdOf L).ty,.int .u8 (hdOf L).fl,.int .u32 (hdOf L).ln,.int .u32 (hdOf L).st] 113)=w3 at *
   generalize w2.heap.size=q at *
   clear hh1 hh2 hd1 hd2 hend hs2 c0 c2 h1 bz kk1 k2
   obtain ⟨z0,z1,z2,z3,z4,-⟩:=five b4
   have k6:=(blk_cell h3.F 6).trans h3.fs.c6
   have kT:=h3.V.t
   have hge:=h3.V.ge
   have hBF:=h3.BF
   obtain ⟨bb,heq⟩:=eql_hd (hdOf L).ty (hdOf L).fl (hdOf L).ln (hdOf L).st
   have hgq:¬2=w.heap.size:=by omega
   have hgq2:¬w.heap.size=2:=by omega
   have hne5:¬w.heap.size=q:=fun e=>hne4 e.symm
   go_wp2
   go_quiet (fail)
   go_wp2
   go_region_held3 (fun w'=>w'.cell? ⟨q,0,none⟩=some (.bool true)∧w'.cell? ⟨q,1,none⟩=some (.int .u8 (hdOf L).ty)∧w'.cell? ⟨q,2,none⟩=some (.int .u8 (hdOf L).fl)∧w'.cell? ⟨q,3,none⟩=some (.int .u32 (hdOf L).ln)∧w'.cell? ⟨q,4,none⟩=some (.int .u32 (hdOf L).st)) (go_keep) (first|(go_at_call 80;refine (invalid_any _).mono ?_;rintro e w' ⟨rfl,rfl⟩))
   all_goals
     have b6:=blk_alloc (w:=w3.drewN (nq+1)) (p:=.cells #[.bool true,.int .u8 80,.int .u8 47,.int .u32 4740180,.int .u32 825110816] 113) b4
     have bq6:=blk_alloc (w:=w3.drewN (nq+1)) (p:=.cells #[.bool true,.int .u8 80,.int .u8 47,.int .u32 4740180,.int .u32 825110816] 113) bq
     have kT6:=cell_alloc (w:=w3.drewN (nq+1)) kT (.cells #[.bool true,.int .u8 80,.int .u8 47,.int .u32 4740180,.int .u32 825110816] 113)
     have k7:Kept K w ((w3.drewN (nq+1)).alloc (.cells #[.bool true,.int .u8 80,.int .u8 47,.int .u32 4740180,.int .u32 825110816] 113)):=(k3.drawn _).alloc _
     generalize (w3.drewN (nq+1)).alloc (.cells #[.bool true,.int .u8 80,.int .u8 47,.int .u32 4740180,.int .u32 825110816] 113)=w6 at *
     clear z0 z1 z2 z3 z4 h3 b4 bq kT k6 heq
     obtain ⟨z0,z1,z2,z3,z4,-⟩:=five b6
     obtain ⟨s0,s1,s2,s3,s4,t0,t1,t2,t3,t4⟩:=five bq6
     cases bb
     all_goals
       go_wp2
       go_region_held3 (fun w'=>w'.cell? ⟨q,0,none⟩=some (.bool true)∧w'.cell? ⟨q,1,none⟩=some (.int .u8 (hdOf L).ty)∧w'.cell? ⟨q,2,none⟩=some (.int .u8 (hdOf L).fl)∧w'.cell? ⟨q,3,none⟩=some (.int .u32 (hdOf L).ln)∧w'.cell? ⟨q,4,none⟩=some (.int .u32 (hdOf L).st)∧w'.cell? ⟨2,0,none⟩=some (.iface 251 (.pointer (some aT)))) (go_keep) (fail)
       all_goals
         go_wp2
         refine ret_blk2 rfl w.heap.size 113 #[.bool true,.int .u8 (hdOf L).ty,.int .u8 (hdOf L).fl,.int .u32 (hdOf L).ln,.int .u32 (hdOf L).st] rfl (by apply blkEqh;(iterate 24 (first|(with_reducible exact bq6)|(with_reducible apply blk_set)|(with_reducible apply blk_drh)|(with_reducible apply blk_drw)|skip));rfl) Tryz.underlying113 infoH rfl ⟨⟨_,_,_,_,_,by rw [errV_large];rfl⟩,k7.trans ?_⟩
         repeat (first|(with_reducible exact Kept.refl _ _)|(with_reducible refine Kept.drawn ?_ _)|(with_reducible refine Kept.drew ?_)|(with_reducible refine Kept.setCell ?_ (fun hk=>absurd hk hKq) _))
 · have b4:(((((w2.setCell ⟨w1.heap.size,0,none⟩ (.bool true)).setCell ⟨w1.heap.size,1,none⟩ (.int .u8 (hdOf L).ty)).setCell ⟨w1.heap.size,2,none⟩ (.int .u8 (hdOf L).fl)).setCell ⟨w1.heap.size,3,none⟩ (.int .u32 (hdOf L).ln)).setCell ⟨w1.heap.size,4,none⟩ (.int .u32 (hdOf L).st)).heap[w1.heap.size]? = some (.cells #[.bool true,.int .u8 (hdOf L).ty,.int .u8 (hdOf L).fl,.int .u32 (hdOf L).ln,.int .u32 (hdOf L).st] 113 (0,0)):=(blk_set (blk_set (blk_set (blk_set (blk_set (hend.blkOf (blk_new w1 _) (by omega) (by omega)) 0 _) 1 _) 2 _) 3 _) 4 _)
   have bq:(((((w2.setCell ⟨w1.heap.size,0,none⟩ (.bool true)).setCell ⟨w1.heap.size,1,none⟩ (.int .u8 (hdOf L).ty)).setCell ⟨w1.heap.size,2,none⟩ (.int .u8 (hdOf L).fl)).setCell ⟨w1.heap.size,3,none⟩ (.int .u32 (hdOf L).ln)).setCell ⟨w1.heap.size,4,none⟩ (.int .u32 (hdOf L).st)).heap[w.heap.size]? = some (.cells #[.bool false,.int .u8 0,.int .u8 0,.int .u32 0,.int .u32 0] 113):=(blk_set_other (blk_set_other (blk_set_other (blk_set_other (blk_set_other (hend.blkOf (w:=(w1.alloc (.cells #[.bool false,.int .u8 0,.int .u8 0,.int .u32 0,.int .u32 0] 113)).drew) (blk_alloc (w:=w1) bz) (by omega) (by omega)) (by simp;omega) _) (by simp;omega) _) (by simp;omega) _) (by simp;omega) _) (by simp;omega) _)
   have k3:Kept K w (((((w2.setCell ⟨w1.heap.size,0,none⟩ (.bool true)).setCell ⟨w1.heap.size,1,none⟩ (.int .u8 (hdOf L).ty)).setCell ⟨w1.heap.size,2,none⟩ (.int .u8 (hdOf L).fl)).setCell ⟨w1.heap.size,3,none⟩ (.int .u32 (hdOf L).ln)).setCell ⟨w1.heap.size,4,none⟩ (.int .u32 (hdOf L).st)):=((((((kk1.trans ((((Kept.refl K w1).alloc _).drew).trans k2)).setCell (fun hk=>absurd (h1.lt _ hk) (Nat.lt_irrefl _)) _).setCell (fun hk=>absurd (h1.lt _ hk) (Nat.lt_irrefl _)) _).setCell (fun hk=>absurd (h1.lt _ hk) (Nat.lt_irrefl _)) _).setCell (fun hk=>absurd (h1.lt _ hk) (Nat.lt_irrefl _)) _).setCell (fun hk=>absurd (h1.lt _ hk) (Nat.lt_irrefl _)) _)
   have h3:=hs2.elsewhere (w':=(((((w2.setCell ⟨w1.heap.size,0,none⟩ (.bool true)).setCell ⟨w1.heap.size,1,none⟩ (.int .u8 (hdOf L).ty)).setCell ⟨w1.heap.size,2,none⟩ (.int .u8 (hdOf L).fl)).setCell ⟨w1.heap.size,3,none⟩ (.int .u32 (hdOf L).ln)).setCell ⟨w1.heap.size,4,none⟩ (.int .u32 (hdOf L).st))) (q:=w1.heap.size) ((((((K1 w1.heap.size w2).setCell (fun hk=>absurd rfl hk) _).setCell (fun hk=>absurd rfl hk) _).setCell (fun hk=>absurd rfl hk) _).setCell (fun hk=>absurd rfl hk) _).setCell (fun hk=>absurd rfl hk) _) (by omega) (by omega) (Nat.ne_of_lt (lt_of_block h1.C)) (fun e=>(h1.rbLt e)) (fun e=>(h1.lfLt e)) (fun hk=>absurd (h1.lt _ hk) (Nat.lt_irrefl _)) (by have:=h1.BF;omega)
   have hne4:w1.heap.size≠w.heap.size:=by omega
   generalize (((((w2.setCell ⟨w1.heap.size,0,none⟩ (.bool true)).setCell ⟨w1.heap.size,1,none⟩ (.int .u8 (hdOf L).ty)).setCell ⟨w1.heap.size,2,none⟩ (.int .u8 (hdOf L).fl)).setCell ⟨w1.heap.size,3,none⟩ (.int .u32 (hdOf L).ln)).setCell ⟨w1.heap.size,4,none⟩ (.int .u32 (hdOf L).st))=w3 at *
   generalize w1.heap.size=q at *
   clear hh1 hh2 hd1 hd2 hend hs2 c0 c2 h1 bz kk1 k2
   obtain ⟨z0,z1,z2,z3,z4,-⟩:=five b4
   have k6:=(blk_cell h3.F 6).trans h3.fs.c6
   have kT:=h3.V.t
   have hge:=h3.V.ge
   have hBF:=h3.BF
   obtain ⟨bb,heq⟩:=eql_hd (hdOf L).ty (hdOf L).fl (hdOf L).ln (hdOf L).st
   have hgq:¬2=w.heap.size:=by omega
   have hgq2:¬w.heap.size=2:=by omega
   have hne5:¬w.heap.size=q:=fun e=>hne4 e.symm
   go_wp2
   go_quiet (fail)
   go_wp2
   go_region_held3 (fun w'=>w'.cell? ⟨q,0,none⟩=some (.bool true)∧w'.cell? ⟨q,1,none⟩=some (.int .u8 (hdOf L).ty)∧w'.cell? ⟨q,2,none⟩=some (.int .u8 (hdOf L).fl)∧w'.cell? ⟨q,3,none⟩=some (.int .u32 (hdOf L).ln)∧w'.cell? ⟨q,4,none⟩=some (.int .u32 (hdOf L).st)) (go_keep) (first|(go_at_call 80;refine (invalid_any _).mono ?_;rintro e w' ⟨rfl,rfl⟩))
   all_goals
     have b6:=blk_alloc (w:=w3.drewN (nq+1)) (p:=.cells #[.bool true,.int .u8 80,.int .u8 47,.int .u32 4740180,.int .u32 825110816] 113) b4
     have bq6:=blk_alloc (w:=w3.drewN (nq+1)) (p:=.cells #[.bool true,.int .u8 80,.int .u8 47,.int .u32 4740180,.int .u32 825110816] 113) bq
     have kT6:=cell_alloc (w:=w3.drewN (nq+1)) kT (.cells #[.bool true,.int .u8 80,.int .u8 47,.int .u32 4740180,.int .u32 825110816] 113)
     have k7:Kept K w ((w3.drewN (nq+1)).alloc (.cells #[.bool true,.int .u8 80,.int .u8 47,.int .u32 4740180,.int .u32 825110816] 113)):=(k3.drawn _).alloc _
     generalize (w3.drewN (nq+1)).alloc (.cells #[.bool true,.int .u8 80,.int .u8 47,.int .u32 4740180,.int .u32 825110816] 113)=w6 at *
     clear z0 z1 z2 z3 z4 h3 b4 bq kT k6 heq
     obtain ⟨z0,z1,z2,z3,z4,-⟩:=five b6
     obtain ⟨s0,s1,s2,s3,s4,t0,t1,t2,t3,t4⟩:=five bq6
     cases bb
     all_goals
       go_wp2
       go_region_held3 (fun w'=>w'.cell? ⟨q,0,none⟩=some (.bool true)∧w'.cell? ⟨q,1,none⟩=some (.int .u8 (hdOf L).ty)∧w'.cell? ⟨q,2,none⟩=some (.int .u8 (hdOf L).fl)∧w'.cell? ⟨q,3,none⟩=some (.int .u32 (hdOf L).ln)∧w'.cell? ⟨q,4,none⟩=some (.int .u32 (hdOf L).st)∧w'.cell? ⟨2,0,none⟩=some (.iface 251 (.pointer (some aT)))) (go_keep) (fail)
       all_goals
         go_wp2
         refine ret_blk2 rfl w.heap.size 113 #[.bool true,.int .u8 (hdOf L).ty,.int .u8 (hdOf L).fl,.int .u32 (hdOf L).ln,.int .u32 (hdOf L).st] rfl (by apply blkEqh;(iterate 24 (first|(with_reducible exact bq6)|(with_reducible apply blk_set)|(with_reducible apply blk_drh)|(with_reducible apply blk_drw)|skip));rfl) Tryz.underlying113 infoH rfl ⟨⟨_,_,_,_,_,by rw [errV_large];rfl⟩,k7.trans ?_⟩
         repeat (first|(with_reducible exact Kept.refl _ _)|(with_reducible refine Kept.drawn ?_ _)|(with_reducible refine Kept.drew ?_)|(with_reducible refine Kept.setCell ?_ (fun hk=>absurd hk hKq) _))
end
end Go.Proofs.YtfdlbjibninakaaGreatDoor

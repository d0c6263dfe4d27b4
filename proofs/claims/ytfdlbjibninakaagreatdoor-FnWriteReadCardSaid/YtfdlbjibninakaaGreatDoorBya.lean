/- spec.Bytes at any legal frame; spec.Whole. -/
import Derived.Test.YtfdlbjibninakaaGreatDoorSb
import Derived.Test.YtfdlbjibninakaaGreatDoorCf
import Derived.Test.YtfdlbjibninakaaGreatDoorWm4
import Derived.Test.YtfdlbjibninakaaGreatDoorWz
import Derived.Deep.RegionHeld3
import Derived.Deep.CutRange
import Derived.Outline
import Derived.BigGuard
set_option linter.unusedVariables false
set_option linter.unusedSimpArgs false
namespace Go.Proofs.YtfdlbjibninakaaGreatDoor
set_option maxRecDepth 10000
set_option maxHeartbeats 2000000
open Go.RowKit
theorem own_row_ne {w:World} {v:Value} {n b:Nat} {xs:List Value} {cs:Array Value} (h:Row w 5 1 v n xs) (hF:w.heap[b]? = some (.cells cs 29 (0,0))):v.ownBlock≠some b:=own_block h hF (by decide)
theorem dep_any {x:Fr} {dv sv:Value} (w:World) (h0:0≤x.dep) (h1:x.dep≤2147483647) (h2:0≤x.wt) (h3:x.wt≤255):Calls Tryz.prog 34 #[.agg (frX x dv sv)] w (RetB w (Pl.wDep x)):=by
 have hor:=u32_or_top h0 h1
 have hw:IntKind.u8.wrap x.wt=x.wt:=wrap_u8 h2 (by omega)
 obtain ⟨n,hn⟩:∃n,depN x.dep x.ex=n:=⟨_,rfl⟩
 have hn0:0≤n∧n<4294967296:=by rw [←hn];unfold depN;split<;>omega
 obtain ⟨hn0,hn1⟩:=hn0
 have hd:Pl.wDep x=be32 n ++ [x.wt]:=by rw [←hn];rfl
 rw [hd]
 have HN:=Lib.hid hn
 obtain ⟨W,hW⟩:∃W,w.alloc (.cells (frX x dv sv) 29)=W:=⟨_,rfl⟩
 have hF:(w.alloc (.cells (frX x dv sv) 29)).heap[w.heap.size]? = some (.cells (frX x dv sv) 29 (0,0)):=blk_new w _
 have hB:Below w.heap.size w (w.alloc (.cells (frX x dv sv) 29)):=((Kept.refl (· < w.heap.size) w).alloc _).below (Nat.le_refl _)
 rw [hW] at hF hB
 have c11:W.cell? ⟨w.heap.size,11,none⟩=some (.int .u32 x.dep):=blk_cell hF 11
 have c10:W.cell? ⟨w.heap.size,10,none⟩=some (.bool x.ex):=blk_cell hF 10
 have c12:W.cell? ⟨w.heap.size,12,none⟩=some (.int .i64 x.wt):=blk_cell hF 12
 have HF:=Lib.hid hF
 have HB:=Lib.hid hB
 have HOR:=Lib.hid hor
 unfold frX frameC at hW ⊢
 clear hn hd hF hB
 obtain ⟨ex,hex⟩:∃ex,x.ex=ex:=⟨_,rfl⟩
 rw [hex] at c10
 have HEX:=Lib.hid hex
 clear hex hor
 go_enter Tryz.func34,Tryz.ntmps34
 go_upto_if 7 with fail
 try rw [hW]
 clear hW
 go_cut [3] from 4 (fun v wc=>v = .int .u32 n∧W=wc)
 case first =>
   have hor:=HOR.out
   cases ex
   all_goals
     go_wp2
     go_meet
     exact ⟨by rw [←HN.out];unfold depN;rw [HEX.out];simp,rfl⟩
 case rest =>
   obtain ⟨rfl,rfl⟩:=hcut
   go_wp2
   refine wp_region_held_drew (S:=fun w'=>w'.cell? ⟨w.heap.size,12,none⟩=some (.int .i64 x.wt)) (by kernel_rfl) (show W.drew.cell? ⟨w.heap.size,12,none⟩=_ from c12) (fun hHeld => ?_)
   refine tkSr 0 (.int .u32 n) ?_;try simp only [Act.put,sxA,sxB,sxC,sxD,sxE,sxF]
   refine tkSr 2 (.pointer (some ⟨w.heap.size,12,none⟩)) ?_;try simp only [Act.put,sxA,sxB,sxC,sxD,sxE,sxF]
   refine tkLr 3 (.int .i64 x.wt) ?_ ?_
   · intro w' hSw;go_simp
   try simp only [Act.put,sxA,sxB,sxC,sxD,sxE,sxF]
   refine tkSr 4 (.int .u8 x.wt) ?_;try simp only [Act.put,sxA,sxB,sxC,sxD,sxE,sxF]
   refine wpAnyH_ready (rs:=[1,5]) (by kernel_rfl) (by simp) ?_
   refine AllReadyH.cons rfl (fun K' hK => ?_) (AllReadyH.cons rfl (fun K' hK => ?_) AllReadyH.nil)
   · go_simp
     refine (bytes4 n _ hn0 hn1).mono ?_
     rintro e w1 ⟨r,rfl,b1,o1,f1⟩
     obtain ⟨ra,rc,rfl,-,-⟩:=own_shape o1
     go_wp2_with fail
     refine hK.out _ _ (cell_below (w:=W.drew) c12 b1) (fun hH1 => ?_)
     clear hK K'
     try simp only [Act.put,sxA,sxB,sxC,sxD,sxE,sxF]
     refine wpAnyH_ready (rs:=[5]) (by kernel_rfl) (by simp) ?_
     refine AllReadyH.cons rfl (fun K' hK => ?_) AllReadyH.nil
     go_simp
     refine hK.out _ _ (cell_alloc hH1 _) (fun hH2 => ?_)
     clear hK K'
     try simp only [Act.put,sxA,sxB,sxC,sxD,sxE,sxF]
     have HF2:=Lib.hid (blk_alloc (p:=.cells #[.int .u8 x.wt] 5) (blk_below (w:=W.drew) HF.out b1))
     have B1:=Lib.hid (Below.then HB.out (Nat.le_refl _) (⟨b1.os,b1.tape,b1.output,b1.size,b1.block⟩:Below W.heap.size W w1))
     have F1:=Lib.hid (f1.mono (show w.heap.size≤W.drew.heap.size from HB.out.size))
     refine wpAnyH_ready (rs:=[6]) (by kernel_rfl) (by simp) ?_
     refine AllReadyH.cons rfl (fun K' hK => ?_) AllReadyH.nil
     refine step_app E5 rfl _ _ rfl (.slice ra 4 rc) 4 (bv (be32 n)) rfl (own_alloc o1 _) 1 [.int .u8 x.wt] (src_of_block Tryz.underlying22 (blk_new w1 _) rfl (by simp [Value.oneCell'])) (by omega) (by unfold maxLen;omega) ?_
     intro a' c' w2 o2 g2 t2
     refine hK.out _ _ (cell_grown g2 hH2 (own_row_ne (own_alloc o1 _) HF2.out)) (fun hH3 => ?_)
     clear hK K'
     try simp only [Act.put,sxA,sxB,sxC,sxD,sxE,sxF]
     refine tkSr 7 (.slice a' (4+1) c') ?_;try simp only [Act.put,sxA,sxB,sxC,sxD,sxE,sxF]
     refine wpAnyH_done (by kernel_rfl) ?_ _
     go_wp2_with fail
     go_ret
     exact ⟨.slice a' (4+1) c',rfl,Below.app (B1.out.alloc B1.out.size _) (by have:=B1.out.size;simp;omega) g2 F1.out,by rw [bv_append];exact o2,Fresh.app (n:=(w1.alloc (.cells #[.int .u8 x.wt] 5)).heap.size) F1.out (by have:=B1.out.size;simp;omega) t2⟩
   · go_simp
     refine hK.out _ _ (cell_alloc (w:=W.drew) c12 _) (fun hH1 => ?_)
     clear hK K'
     try simp only [Act.put,sxA,sxB,sxC,sxD,sxE,sxF]
     refine wpAnyH_ready (rs:=[1]) (by kernel_rfl) (by simp) ?_
     refine AllReadyH.cons rfl (fun K' hK => ?_) AllReadyH.nil
     go_simp
     refine (bytes4 n _ hn0 hn1).mono ?_
     rintro e w1 ⟨r,rfl,b1,o1,f1⟩
     obtain ⟨ra,rc,rfl,-,-⟩:=own_shape o1
     go_wp2_with fail
     refine hK.out _ _ (cell_below hH1 b1) (fun hH2 => ?_)
     clear hK K'
     try simp only [Act.put,sxA,sxB,sxC,sxD,sxE,sxF]
     have HF2:=Lib.hid (blk_below (blk_alloc (w:=W.drew) (p:=.cells #[.int .u8 x.wt] 5) HF.out) b1)
     have bs:Below W.heap.size W w1:=((Kept.refl (· < W.heap.size) W).drew.alloc (.cells #[.int .u8 x.wt] 5)).trans ((Kept.ofBelow b1).mono fun k h _=>by simp;omega) |>.below (Nat.le_refl _)
     have B1:=Lib.hid (Below.then HB.out (Nat.le_refl _) bs)
     have F1:=Lib.hid (f1.mono (show w.heap.size≤(W.drew.alloc (.cells #[.int .u8 x.wt] 5)).heap.size from by have:=HB.out.size;simp;omega))
     have HS:=Lib.hid (blk_below (blk_new W.drew (.cells #[.int .u8 x.wt] 5)) b1)
     refine wpAnyH_ready (rs:=[6]) (by kernel_rfl) (by simp) ?_
     refine AllReadyH.cons rfl (fun K' hK => ?_) AllReadyH.nil
     refine step_app E5 rfl _ _ rfl (.slice ra 4 rc) 4 (bv (be32 n)) rfl o1 1 [.int .u8 x.wt] (src_of_block Tryz.underlying22 HS.out rfl (by simp [Value.oneCell'])) (by omega) (by unfold maxLen;omega) ?_
     intro a' c' w2 o2 g2 t2
     refine hK.out _ _ (cell_grown g2 hH2 (own_row_ne o1 HF2.out)) (fun hH3 => ?_)
     clear hK K'
     try simp only [Act.put,sxA,sxB,sxC,sxD,sxE,sxF]
     refine tkSr 7 (.slice a' (4+1) c') ?_;try simp only [Act.put,sxA,sxB,sxC,sxD,sxE,sxF]
     refine wpAnyH_done (by kernel_rfl) ?_ _
     go_wp2_with fail
     go_ret
     exact ⟨.slice a' (4+1) c',rfl,Below.app B1.out B1.out.size g2 F1.out,by rw [bv_append];exact o2,Fresh.app (n:=w1.heap.size) F1.out B1.out.size t2⟩
end Go.Proofs.YtfdlbjibninakaaGreatDoor

namespace Go.Proofs.YtfdlbjibninakaaGreatDoor
set_option maxRecDepth 100000
set_option maxHeartbeats 16000000
open Go.RowKit
theorem infoSb:(Tryz.prog.info? 97).map (·.size)=some 2:=by kernel_rfl
theorem wSet_snoc' (l:List (Int × Int)) (p:Int × Int):Pl.wSet (l ++ [p])=Pl.wSet l++be16 p.1++be32 p.2:=by
 induction l with
 | nil=>simp [Pl.wSet,Pl.w16,Pl.w32,be16,be32]
 | cons q l ih=>rw [List.cons_append,Pl.wSet,Pl.wSet,ih];simp only [List.append_assoc]
theorem be32_len (v:Int):(be32 v).length=4:=rfl
theorem be16_len (v:Int):(be16 v).length=2:=rfl
structure Grew (w:World) (v:Value) (l:List Int) (w':World):Prop where
 own:Row w' 5 1 v l.length (bv l)
 fr:Fresh w.heap.size v
 B:Below w.heap.size w w'
theorem Grew.below {w w1 w2:World} {v:Value} {l:List Int} (h:Grew w v l w1) (hb:Below w1.heap.size w1 w2):Grew w v l w2:=⟨own_below h.own hb,h.fr,Below.then h.B (Nat.le_refl _) hb⟩
theorem blkEqB {w:World} {b:Nat} {cs cs':Array Value} {t:TypeId} {fr:Nat × Nat} (h:w.heap[b]? = some (.cells cs t fr)) (e:cs=cs'):w.heap[b]? = some (.cells cs' t fr):=e▸h
theorem Grew.app {w w1 w2:World} {v:Value} {l m:List Int} {a':Option Addr} {c':Nat} (h:Grew w v l w1) (own:Row w2 5 1 (.slice a' (l.length+m.length) c') (l.length+m.length) (bv l++bv m)) (hg:w1.grownBy w2 v.ownBlock)
   (hat:(Value.slice a' (l.length+m.length) c').ownBlock=v.ownBlock∨(Value.slice a' (l.length+m.length) c').ownBlock=some w1.heap.size):Grew w (.slice a' (l.length+m.length) c') (l++m) w2:=
 ⟨by rw [List.length_append,bv_append];exact own,h.fr.app h.B.size hat,Below.app h.B h.B.size hg h.fr⟩
theorem bytes_set {w:World} {x:Fr} {dv:Value} {sv pv:Value} {q:Bool} (hs:RdP w sv x.set) (hl:x.set.length≤1000) (ht:x.ty=4) (hf0:0≤x.fl) (hf1:x.fl<256) (hs0:0≤x.st) (hs1:x.st<4294967296) (hb:∀p∈x.set,0≤p.1∧p.1<65536∧0≤p.2∧p.2<4294967296) :
   Calls Tryz.prog 17 #[.agg (frX x dv sv),pv,.bool q] w (RetB w (hdrS (Pl.wSet x.set).length 4 x.fl x.st++Pl.wSet x.set)):=by
 obtain ⟨sa,sc,rfl,hsc,hsm,-⟩:=id hs
 have hB0:Below w.heap.size w (w.alloc (.cells (frX x dv (.slice sa x.set.length sc)) 29)):=((Kept.refl (· < w.heap.size) w).alloc _).below (Nat.le_refl _)
 have hF0:(w.alloc (.cells (frX x dv (.slice sa x.set.length sc)) 29)).heap[w.heap.size]? = some (.cells (frX x dv (.slice sa x.set.length sc)) 29 (0,0)):=blk_new w _
 have HS:=Lib.hid hs
 have HB:=Lib.hid hb
 have hwl:(Pl.wSet x.set).length=x.set.length*6:=Pl.wSet_len _
 have HWL:=Lib.hid hwl
 have HF:=Lib.hid hF0
 clear hs hb hwl hF0
 have h20:(0:Int)≤4:=by omega
 unfold frX frameC at HF hB0 ⊢
 rw [ht] at HF hB0 ⊢
 clear ht
 go_enter Tryz.func17,Tryz.ntmps17
 go_wp2_with fail
 obtain ⟨FC,hFC,q0,q2⟩:∃FC:Array Value,#[.int .i64 4,.int .i64 x.fl,.int .u32 x.st,.int .i64 x.ln,dv,.int .u32 x.pr,.int .u32 x.la,.int .u32 x.co,.int .u32 x.inc,.bool x.hp,.bool x.ex,.int .u32 x.dep,.int .i64 x.wt,.slice sa x.set.length sc]=FC∧FC[0]? = some (.int .i64 4)∧FC[2]? = some (.int .u32 x.st):=⟨_,rfl,rfl,rfl⟩
 have hF2:=blkEqB HF.out hFC
 have HF2:=Lib.hid hF2
 clear hF2
 have Q0:=Lib.hid q0
 have Q2:=Lib.hid q2
 clear q0 q2 hFC
 go_loopw [7,73] (fun bvv i wr => ∃k:Nat,k≤x.set.length∧i = .int .i64 k∧Grew w bvv (Pl.wSet (x.set.take k)) wr∧wr.heap[w.heap.size]? = some (.cells FC 29 (0,0))) (fun _ i _=>x.set.length-(intOf i).toNat)
 case atStart=>exact ⟨0,Nat.zero_le _,rfl,⟨by rw [List.take_zero];exact World.ownsRow_nil _ _ _ _,Fresh.nil _,hB0⟩,HF2.out⟩
 case round =>
   obtain ⟨k,hk,rfl,hG,hFr⟩:=hrel
   obtain ⟨B,hBd⟩:∃B,Pl.wSet (x.set.take k)=B:=⟨_,rfl⟩
   rw [hBd] at hG
   have hBl:B.length≤6000:=by rw [←hBd,Pl.wSet_len,List.length_take];omega
   obtain ⟨ba,bc,rfl,hbc,hbm⟩:=own_shape hG.own
   have HG:=Lib.hid hG
   have HFR:=Lib.hid hFr
   by_cases hlt:k<x.set.length
   · obtain ⟨_,_,e,-,-,hq⟩:=HS.out.below hG.B
     cases e
     obtain ⟨b,o,rfl,d1,d2⟩:=hq k _ (List.getElem?_eq_getElem hlt)
     obtain ⟨b0,b1,b2,b3⟩:=HB.out _ (List.getElem_mem hlt)
     have hsn:Pl.wSet (x.set.take (k+1))=B++be16 x.set[k].1++be32 x.set[k].2:=by rw [List.take_succ_eq_append_getElem hlt,wSet_snoc',hBd]
     have HSN:=Lib.hid hsn
     clear hq hsn hBd hG hFr
     generalize x.set[k].1=id at *
     generalize x.set[k].2=vl at *
     have hwu:IntKind.u32.wrap id=id:=by simp [IntKind.wrap,IntKind.bits,IntKind.signed,show (2:Int) ^ 32=4294967296 from by decide];omega
     go_upto_region 27 with (refine wpList_load_at rfl 97 _ rfl b _ rfl #[.int .i64 id,.int .u32 vl] (two_at d1 d2 (by simp;omega)) Tryz.underlying97 infoSb ?_)
     have hX:(wr.alloc (.cells #[.int .i64 id,.int .u32 vl] 97)).heap[wr.heap.size]? = some (.cells #[.int .i64 id,.int .u32 vl] 97 (0,0)):=blk_new wr _
     have bx:Below wr.heap.size wr (wr.alloc (.cells #[.int .i64 id,.int .u32 vl] 97)):=((Kept.refl (· < wr.heap.size) wr).alloc _).below (Nat.le_refl _)
     have hGx:=HG.out.below bx
     obtain ⟨W,hW⟩:∃W,wr.alloc (.cells #[.int .i64 id,.int .u32 vl] 97)=W:=⟨_,rfl⟩
     rw [hW] at hX hGx bx ⊢
     have HFW:=Lib.hid (blk_below HFR.out bx)
     clear hW d1 d2
     have HGX:=Lib.hid hGx
     clear hGx
     refine wp_region_held_drew (S:=fun w'=>w'.heap[wr.heap.size]? = some (.cells #[.int .i64 id,.int .u32 vl] 97 (0,0))∧w'.heap[w.heap.size]? = some (.cells FC 29 (0,0))) (by kernel_rfl) ⟨hX,HFW.out⟩ (fun hHeld => ?_)
     refine tkSr 0 (.slice ba B.length bc) ?_;try simp only [Act.put,sxA,sxB,sxC]
     refine tkSr 1 (.pointer (some ⟨wr.heap.size,0,none⟩)) ?_;try simp only [Act.put,sxA,sxB,sxC]
     refine tkLr 2 (.int .i64 id) ?_ ?_
     · intro w' hSw;have hc:w'.cell? ⟨wr.heap.size,0,none⟩=some (.int .i64 id):=blk_cell hSw.1 0;clear hSw;go_simp
     try simp only [Act.put,sxA,sxB,sxC]
     refine tkSr 3 (.int .u32 id) ?_;try simp only [Act.put,sxA,sxB,sxC]
     refine tkSr 6 (.pointer (some ⟨wr.heap.size,1,none⟩)) ?_;try simp only [Act.put,sxA,sxB,sxC]
     refine tkLr 7 (.int .u32 vl) ?_ ?_
     · intro w' hSw;have hc:w'.cell? ⟨wr.heap.size,1,none⟩=some (.int .u32 vl):=blk_cell hSw.1 1;clear hSw;go_simp
     try simp only [Act.put,sxA,sxB,sxC]
     have bd:Below W.heap.size W W.drew:=(Below.refl _ _).drew
     have G0:=Lib.hid (HGX.out.below bd)
     refine wpAnyH_ready (rs:=[4]) (by kernel_rfl) (by simp) ?_
     refine AllReadyH.cons rfl (fun K' hK => ?_) AllReadyH.nil
     go_simp
     refine (bytes2 id _ b0 b1).mono ?_
     rintro e w1 ⟨v1,rfl,h1,o1,f1⟩
     have hh1:=(⟨blk_below hHeld.1 h1,blk_below hHeld.2 h1⟩:_∧_)
     have G1:=Lib.hid (G0.out.below h1)
     obtain ⟨a1,c1,rfl,-,-⟩:=own_shape o1
     go_wp2_with fail
     refine hK.out _ _ hh1 (fun hHeld1 => ?_)
     clear hK K'
     try simp only [Act.put,sxA,sxB,sxC]
     refine wpAnyH_ready (rs:=[5]) (by kernel_rfl) (by simp) ?_
     refine AllReadyH.cons rfl (fun K' hK => ?_) AllReadyH.nil
     refine step_app E5 rfl _ _ rfl (.slice ba B.length bc) B.length (bv B) rfl G1.out.own (be16 id).length (bv (be16 id)) (src_of_row Tryz.underlying22 o1 (bv_one _)) (by rw [be16_len];omega) (by rw [be16_len];unfold maxLen;omega) ?_
     intro a2 c2 w2 own2 g2 t2
     have hh2:=(⟨blk_grown hHeld1.1 g2 (own_block G1.out.own hHeld1.1 (by decide)),blk_grown hHeld1.2 g2 (own_block G1.out.own hHeld1.2 (by decide))⟩:_∧_)
     have G2:=Lib.hid (G1.out.app own2 g2 t2)
     clear own2 g2 t2
     refine hK.out _ _ hh2 (fun hHeld2 => ?_)
     clear hK K'
     try simp only [Act.put,sxA,sxB,sxC]
     refine wpAnyH_ready (rs:=[8]) (by kernel_rfl) (by simp) ?_
     refine AllReadyH.cons rfl (fun K' hK => ?_) AllReadyH.nil
     go_simp
     refine (bytes4 vl _ b2 b3).mono ?_
     rintro e w3 ⟨v3,rfl,h3,o3,f3⟩
     have hh3:=(⟨blk_below hHeld2.1 h3,blk_below hHeld2.2 h3⟩:_∧_)
     have G3:=Lib.hid (G2.out.below h3)
     obtain ⟨a3,c3,rfl,-,-⟩:=own_shape o3
     go_wp2_with fail
     refine hK.out _ _ hh3 (fun hHeld3 => ?_)
     clear hK K'
     try simp only [Act.put,sxA,sxB,sxC]
     refine wpAnyH_ready (rs:=[9]) (by kernel_rfl) (by simp) ?_
     refine AllReadyH.cons rfl (fun K' hK => ?_) AllReadyH.nil
     refine step_app E5 rfl _ _ rfl (.slice a2 (B.length+(be16 id).length) c2) (B++be16 id).length (bv (B++be16 id)) rfl G3.out.own (be32 vl).length (bv (be32 vl)) (src_of_row Tryz.underlying22 o3 (bv_one _)) (by rw [List.length_append,be16_len,be32_len];omega) (by rw [List.length_append,be16_len,be32_len];unfold maxLen;omega) ?_
     intro a4 c4 w4 own4 g4 t4
     have hh4:=(⟨blk_grown hHeld3.1 g4 (own_block G3.out.own hHeld3.1 (by decide)),blk_grown hHeld3.2 g4 (own_block G3.out.own hHeld3.2 (by decide))⟩:_∧_)
     have G4:=Lib.hid (G3.out.app own4 g4 t4)
     clear own4 g4 t4
     refine hK.out _ _ hh4 (fun hHeld4 => ?_)
     clear hK K'
     try simp only [Act.put,sxA,sxB,sxC]
     refine tkSr 10 (.slice a4 ((B++be16 id).length+(be32 vl).length) c4) ?_;try simp only [Act.put,sxA,sxB,sxC]
     refine wpAnyH_done (by kernel_rfl) ?_ _
     go_wp2_with fail
     go_roundw
     case rel=>exact ⟨k+1,by omega,by go_num,by rw [HSN.out];have h:=G4.out;rw [List.length_append] at h;exact h,hHeld4.2⟩
     case measure=>simp [intOf];omega
   · have hkl:k=x.set.length:=by omega
     subst hkl
     rw [List.take_length] at hBd
     obtain rfl:B=Pl.wSet x.set:=hBd.symm
     have hh:=headerBytesS_any (Pl.wSet x.set).length 4 x.fl x.st wr (by omega) (by omega) h20 (by omega) hf0 hf1 hs0 hs1
     have hl9:(hdrS (Pl.wSet x.set).length 4 x.fl x.st).length=9:=rfl
     have c0:wr.cell? ⟨w.heap.size,0,none⟩=some (.int .i64 4):=(blk_cell HFR.out 0).trans Q0.out
     have c2:wr.cell? ⟨w.heap.size,2,none⟩=some (.int .u32 x.st):=(blk_cell HFR.out 2).trans Q2.out
     clear hFr hG hBd
     generalize hdrS (Pl.wSet x.set).length 4 x.fl x.st=H at *
     generalize Pl.wSet x.set=B at *
     have H9:=Lib.hid hl9
     clear hl9
     go_wp2_with (first
       | (go_at_call 35;refine hh.mono ?_;rintro e w1 ⟨r,rfl,h1,o1,f1⟩;obtain ⟨ra,rc,rfl,-,-⟩:=own_shape o1;have G1:=Lib.hid (HG.out.below h1))
       | (at_builtin;refine wpList_app E5 rfl _ _ rfl (.slice ra H.length rc) H.length _ rfl o1 B.length _ (src_of_row Tryz.underlying22 G1.out.own (bv_one _)) (by have:=H9.out;omega) (by have:=H9.out;unfold maxLen;omega) ?_;intro a' c' w2 o2 g2 t2))
     go_ret
     have f0:Fresh w.heap.size (.slice ra H.length rc):=f1.mono HG.out.B.size
     refine ⟨.slice a' (H++B).length c',by (rw [List.length_append];rfl),Below.app (Below.then HG.out.B (Nat.le_refl _) h1) (Nat.le_trans HG.out.B.size h1.size) g2 f0,by rw [List.length_append,bv_append];exact o2,?_⟩
     rw [List.length_append]
     exact f0.app (Nat.le_trans HG.out.B.size h1.size) t2
end Go.Proofs.YtfdlbjibninakaaGreatDoor

namespace Go.Proofs.YtfdlbjibninakaaGreatDoor
set_option maxRecDepth 100000
set_option maxHeartbeats 4000000
open Go.RowKit
structure Gr (w:World) (fc:Array Value) (v:Value) (n:Nat) (l:List Int) (w':World):Prop where
 len:l.length=n
 own:Row w' 5 1 v n (bv l)
 fr:Fresh w.heap.size v
 B:Below w.heap.size w w'
 F:w'.heap[w.heap.size]? = some (.cells fc 29 (0,0))
 lt:w.heap.size<w'.heap.size
section
variable {w w1 w2 : World} {fc : Array Value} {v : Value} {n : Nat} {l : List Int}
theorem Gr.start (w:World) (fc:Array Value):Gr w fc (.slice none 0 0) 0 [] (w.alloc (.cells fc 29)):=
 ⟨rfl,World.ownsRow_nil _ _ _ _,Fresh.nil _,((Kept.refl (· < w.heap.size) w).alloc _).below (Nat.le_refl _),blk_new w _,by simp⟩
theorem Gr.below (h:Gr w fc v n l w1) (hb:Below w1.heap.size w1 w2):Gr w fc v n l w2:=
 ⟨h.len,own_below h.own hb,h.fr,Below.then h.B (Nat.le_refl _) hb,blk_below h.F hb,Nat.lt_of_lt_of_le h.lt hb.size⟩
theorem Gr.alloc (h:Gr w fc v n l w1) (ob:Obj):Gr w fc v n l (w1.alloc ob):=h.below (((Kept.refl (· < w1.heap.size) w1).alloc ob).below (Nat.le_refl _))
theorem Gr.app {m:Nat} {k:List Int} {a':Option Addr} {c':Nat} (h:Gr w fc v n l w1) (hm:k.length=m) (own:Row w2 5 1 (.slice a' (n+m) c') (n+m) (bv l++bv k)) (hg:w1.grownBy w2 v.ownBlock)
   (hat:(Value.slice a' (n+m) c').ownBlock=v.ownBlock∨(Value.slice a' (n+m) c').ownBlock=some w1.heap.size):Gr w fc (.slice a' (n+m) c') (n+m) (l++k) w2:=
 ⟨by rw [List.length_append,h.len,hm],by rw [bv_append];exact own,h.fr.app h.B.size hat,Below.app h.B h.B.size hg h.fr,blk_grown h.F hg (own_row_ne h.own h.F),Nat.lt_of_lt_of_le h.lt hg.size⟩
theorem Gr.app0 {m:Nat} {k:List Int} {a':Option Addr} {c':Nat} (h:Gr w fc v 0 [] w1) (hm:k.length=m) (own:Row w2 5 1 (.slice a' (0+m) c') (0+m) (bv []++bv k)) (hg:w1.grownBy w2 v.ownBlock)
   (hat:(Value.slice a' (0+m) c').ownBlock=v.ownBlock∨(Value.slice a' (0+m) c').ownBlock=some w1.heap.size):Gr w fc (.slice a' m c') m k w2:=by
 have h1:=h.app hm own hg hat
 rw [Nat.zero_add] at h1
 exact h1
theorem Gr.ret {a:Option Addr} {m c:Nat} {k:List Int} (h:Gr w fc v n l w1) (hb:Below w1.heap.size w1 w2) (ho:Row w2 5 1 (.slice a m c) m (bv k)) (hf:Fresh w1.heap.size (.slice a m c)) (hm:k.length=m):Gr w fc (.slice a m c) m k w2:=
 ⟨hm,ho,hf.mono h.B.size,Below.then h.B (Nat.le_refl _) hb,blk_below h.F hb,Nat.lt_of_lt_of_le h.lt hb.size⟩
theorem Gr.drew (h:Gr w fc v n l w1):Gr w fc v n l w1.drew:=⟨h.len,own_drew h.own,h.fr,h.B.drew,h.F,h.lt⟩
end
theorem retB_n {w:World} {l:List Int} {n:Nat} (hn:l.length=n) {e:Ending} {w':World} (h:RetB w l e w'):∃a c,e = .returned (.slice a n c)∧Below w.heap.size w w'∧Row w' 5 1 (.slice a n c) n (bv l)∧Fresh w.heap.size (.slice a n c):=by
 obtain ⟨r,rfl,hb,ho,hf⟩:=h
 rw [hn] at ho
 obtain ⟨a,c,rfl,-,-⟩:=own_shape ho
 exact ⟨a,c,rfl,hb,ho,hf⟩
theorem wDep_n (x:Fr):(Pl.wDep x).length=5:=rfl
theorem be32_n (v:Int):(be32 v).length=4:=rfl
theorem byt_0f {w:World} {x:Fr} {dv sv:Value} {pad:List Int} {pa:Option Addr} {pc:Nat} (hok:Pl.Legal x pad false) (hd:RdB w dv x.data) (hs:RdP w sv x.set) (hp:RdB w (.slice pa pad.length pc) pad) (ht:x.ty=0) :
   Calls Tryz.prog 17 #[.agg (frX x dv sv),.slice pa pad.length pc,.bool false] w (RetB w (Pl.wBytes x pad false)):=by
 obtain ⟨sa,sc,rfl,-,-⟩:=id hs
 obtain ⟨da,dc,rfl,-,-⟩:=id hd
 have hdl:=hok.dl
 have hpl:=hok.pl
 have hfl:=hok.fl
 unfold Pl.flOk at hfl
 simp [ht] at hfl
 have hfl1:0≤x.fl∧x.fl<6:=by omega
 obtain ⟨hfa,hfb⟩:=hfl1
 have hfl4:x.fl=0∨x.fl=1∨x.fl=4∨x.fl=5:=by omega
 skip
 have eW:Pl.wBytes x pad false=hdrS ((x.data:List Int).length:Nat) 0 (x.fl) x.st++(x.data):=by
   unfold Pl.wBytes Pl.wPay Pl.wFl hdrS Pl.wHd
   simp [ht,be32_w]
 have hN:((x.data:List Int).length:Int)=(x.data.length:Int):=by
   simp [wDep_n,be32_n]<;>omega
 rw [hN] at eW
 rw [eW]
 have HOK:=Lib.hid hok
 have HD:=Lib.hid hd
 have HP:=Lib.hid hp
 have DEP:=Lib.hid fun w=>dep_any (x:=x) (dv:=.slice da x.data.length dc) (sv:=.slice sa x.set.length sc) w hok.dep.1 hok.dep.2 hok.wt.1 hok.wt.2
 have hw8:=wrap_u8 (n:=pad.length) (by omega) (by omega)
 have G0:=Lib.hid (Gr.start w #[.int .i64 0,.int .i64 x.fl,.int .u32 x.st,.int .i64 x.ln,.slice da x.data.length dc,.int .u32 x.pr,.int .u32 x.la,.int .u32 x.co,.int .u32 x.inc,.bool x.hp,.bool x.ex,.int .u32 x.dep,.int .i64 x.wt,.slice sa x.set.length sc])
 unfold frX frameC at DEP ⊢
 rw [ht] at DEP ⊢
 clear hok hd hp eW hfl hs hN hfl4
 go_enter Tryz.func17,Tryz.ntmps17
 go_wp2_with (first
   | (at_builtin;refine wpList_app E5 rfl _ _ rfl (.slice none 0 0) (0) (bv ([])) rfl G0.out.own (x.data.length) (bv (x.data)) (src_of_rd (HD.out.below G0.out.B)) (by omega) (by unfold maxLen;omega) ?_;intro a21 c21 w1 o1x g1 t1;have G1:Hid (Gr w #[.int .i64 0,.int .i64 x.fl,.int .u32 x.st,.int .i64 x.ln,.slice da x.data.length dc,.int .u32 x.pr,.int .u32 x.la,.int .u32 x.co,.int .u32 x.inc,.bool x.hp,.bool x.ex,.int .u32 x.dep,.int .i64 x.wt,.slice sa x.set.length sc] (.slice a21 (x.data.length) c21) (x.data.length) (x.data) w1):=Lib.hid (G0.out.app0 (k:=x.data) rfl o1x g1 t1);have c0:w1.cell? ⟨w.heap.size,0,none⟩=some (.int .i64 0):=blk_cell G1.out.F 0;have c2:w1.cell? ⟨w.heap.size,2,none⟩=some (.int .u32 x.st):=blk_cell G1.out.F 2;have c4:w1.cell? ⟨w.heap.size,4,none⟩=some (.slice da x.data.length dc):=blk_cell G1.out.F 4;have c5:w1.cell? ⟨w.heap.size,5,none⟩=some (.int .u32 x.pr):=blk_cell G1.out.F 5;have c9:w1.cell? ⟨w.heap.size,9,none⟩=some (.bool x.hp):=blk_cell G1.out.F 9)
   | (go_at_call 35;refine (headerBytesS_any _ 0 x.fl x.st _ (by omega) (by omega) (by omega) (by omega) (by omega) (by omega) HOK.out.st.1 (by have:=HOK.out.st;omega)).mono ?_;intro e vh hrh;obtain ⟨rah,rch,rfl,bh,oh,fh⟩:=retB_n (n:=9) rfl hrh;have Gh:=Lib.hid (G1.out.below bh);have fh':=fh.mono G1.out.B.size)
   | (at_builtin;refine wpList_app E5 rfl _ _ rfl (.slice rah 9 rch) 9 _ rfl oh (x.data.length) (bv (x.data)) (src_of_row Tryz.underlying22 Gh.out.own (bv_one _)) (by omega) (by unfold maxLen;omega) ?_;intro a' c' w' o' g' t'))
 go_ret
 refine ⟨.slice a' (9+(x.data.length)) c',rfl,Below.app Gh.out.B Gh.out.B.size g' fh',?_,Fresh.app fh' Gh.out.B.size t'⟩
 rw [List.length_append,show (hdrS ((x.data.length:Int)) 0 (x.fl) x.st).length=9 from rfl,Gh.out.len,bv_append]
 exact o'
theorem byt_0t {w:World} {x:Fr} {dv sv:Value} {pad:List Int} {pa:Option Addr} {pc:Nat} (hok:Pl.Legal x pad true) (hd:RdB w dv x.data) (hs:RdP w sv x.set) (hp:RdB w (.slice pa pad.length pc) pad) (ht:x.ty=0) :
   Calls Tryz.prog 17 #[.agg (frX x dv sv),.slice pa pad.length pc,.bool true] w (RetB w (Pl.wBytes x pad true)):=by
 obtain ⟨sa,sc,rfl,-,-⟩:=id hs
 obtain ⟨da,dc,rfl,-,-⟩:=id hd
 have hdl:=hok.dl
 have hpl:=hok.pl
 have hfl:=hok.fl
 unfold Pl.flOk at hfl
 simp [ht] at hfl
 have hfl1:0≤x.fl∧x.fl<6:=by omega
 obtain ⟨hfa,hfb⟩:=hfl1
 have hfl4:x.fl=0∨x.fl=1∨x.fl=4∨x.fl=5:=by omega
 have hor8:bits .or .i64 x.fl 8=x.fl+8:=by rcases hfl4 with e|e|e|e<;>rw [e]<;>decide
 have eW:Pl.wBytes x pad true=hdrS (([(pad.length:Int)]++x.data++pad:List Int).length:Nat) 0 (x.fl+8) x.st++([(pad.length:Int)]++x.data++pad):=by
   unfold Pl.wBytes Pl.wPay Pl.wFl hdrS Pl.wHd
   simp [ht,be32_w]
 have hN:(([(pad.length:Int)]++x.data++pad:List Int).length:Int)=1+(x.data.length:Int)+(pad.length:Int):=by
   simp [wDep_n,be32_n]<;>omega
 rw [hN] at eW
 rw [eW]
 obtain ⟨LL,hLL⟩:∃q:List Int,([(pad.length:Int)]++x.data++pad:List Int)=q:=⟨_,rfl⟩
 rw [hLL]
 have HLL:=Lib.hid hLL
 clear hLL
 have HOK:=Lib.hid hok
 have HD:=Lib.hid hd
 have HP:=Lib.hid hp
 have DEP:=Lib.hid fun w=>dep_any (x:=x) (dv:=.slice da x.data.length dc) (sv:=.slice sa x.set.length sc) w hok.dep.1 hok.dep.2 hok.wt.1 hok.wt.2
 have hw8:=wrap_u8 (n:=pad.length) (by omega) (by omega)
 have G0:=Lib.hid (Gr.start w #[.int .i64 0,.int .i64 x.fl,.int .u32 x.st,.int .i64 x.ln,.slice da x.data.length dc,.int .u32 x.pr,.int .u32 x.la,.int .u32 x.co,.int .u32 x.inc,.bool x.hp,.bool x.ex,.int .u32 x.dep,.int .i64 x.wt,.slice sa x.set.length sc])
 unfold frX frameC at DEP ⊢
 rw [ht] at DEP ⊢
 clear hok hd hp eW hfl hs hN hfl4
 go_enter Tryz.func17,Tryz.ntmps17
 go_wp2_with (first
   | (at_builtin;refine wpList_app E5 rfl _ _ rfl (.slice none 0 0) (0) (bv ([])) rfl (own_alloc G0.out.own _) (1) [.int .u8 pad.length] (src_of_block Tryz.underlying22 (blk_at _ _ (by simp)) rfl (by simp [Value.oneCell'])) (by omega) (by unfold maxLen;omega) ?_;intro a21 c21 w1 o1x g1 t1;have G1:Hid (Gr w #[.int .i64 0,.int .i64 x.fl,.int .u32 x.st,.int .i64 x.ln,.slice da x.data.length dc,.int .u32 x.pr,.int .u32 x.la,.int .u32 x.co,.int .u32 x.inc,.bool x.hp,.bool x.ex,.int .u32 x.dep,.int .i64 x.wt,.slice sa x.set.length sc] (.slice a21 (1) c21) (1) ([(pad.length:Int)]) w1):=Lib.hid ((G0.out.alloc _).app0 (k:=[(pad.length:Int)]) rfl o1x g1 t1);have c0:w1.cell? ⟨w.heap.size,0,none⟩=some (.int .i64 0):=blk_cell G1.out.F 0;have c2:w1.cell? ⟨w.heap.size,2,none⟩=some (.int .u32 x.st):=blk_cell G1.out.F 2;have c4:w1.cell? ⟨w.heap.size,4,none⟩=some (.slice da x.data.length dc):=blk_cell G1.out.F 4;have c5:w1.cell? ⟨w.heap.size,5,none⟩=some (.int .u32 x.pr):=blk_cell G1.out.F 5;have c9:w1.cell? ⟨w.heap.size,9,none⟩=some (.bool x.hp):=blk_cell G1.out.F 9)
   | (at_builtin;refine wpList_app E5 rfl _ _ rfl (.slice a21 (1) c21) (1) (bv ([(pad.length:Int)])) rfl G1.out.own (x.data.length) (bv (x.data)) (src_of_rd (HD.out.below G1.out.B)) (by omega) (by unfold maxLen;omega) ?_;intro a22 c22 w2 o2x g2 t2;have G2:Hid (Gr w #[.int .i64 0,.int .i64 x.fl,.int .u32 x.st,.int .i64 x.ln,.slice da x.data.length dc,.int .u32 x.pr,.int .u32 x.la,.int .u32 x.co,.int .u32 x.inc,.bool x.hp,.bool x.ex,.int .u32 x.dep,.int .i64 x.wt,.slice sa x.set.length sc] (.slice a22 (1+x.data.length) c22) (1+x.data.length) ([(pad.length:Int)]++x.data) w2):=Lib.hid (G1.out.app (k:=x.data) rfl o2x g2 t2);have c0:w2.cell? ⟨w.heap.size,0,none⟩=some (.int .i64 0):=blk_cell G2.out.F 0;have c2:w2.cell? ⟨w.heap.size,2,none⟩=some (.int .u32 x.st):=blk_cell G2.out.F 2;have c4:w2.cell? ⟨w.heap.size,4,none⟩=some (.slice da x.data.length dc):=blk_cell G2.out.F 4;have c5:w2.cell? ⟨w.heap.size,5,none⟩=some (.int .u32 x.pr):=blk_cell G2.out.F 5;have c9:w2.cell? ⟨w.heap.size,9,none⟩=some (.bool x.hp):=blk_cell G2.out.F 9)
   | (at_builtin;refine wpList_app E5 rfl _ _ rfl (.slice a22 (1+x.data.length) c22) (1+x.data.length) (bv ([(pad.length:Int)]++x.data)) rfl G2.out.own (pad.length) (bv (pad)) (src_of_rd (HP.out.below G2.out.B)) (by omega) (by unfold maxLen;omega) ?_;intro a23 c23 w3 o3x g3 t3;have G3:Hid (Gr w #[.int .i64 0,.int .i64 x.fl,.int .u32 x.st,.int .i64 x.ln,.slice da x.data.length dc,.int .u32 x.pr,.int .u32 x.la,.int .u32 x.co,.int .u32 x.inc,.bool x.hp,.bool x.ex,.int .u32 x.dep,.int .i64 x.wt,.slice sa x.set.length sc] (.slice a23 (1+x.data.length+pad.length) c23) (1+x.data.length+pad.length) ([(pad.length:Int)]++x.data++pad) w3):=Lib.hid (G2.out.app (k:=pad) rfl o3x g3 t3);have c0:w3.cell? ⟨w.heap.size,0,none⟩=some (.int .i64 0):=blk_cell G3.out.F 0;have c2:w3.cell? ⟨w.heap.size,2,none⟩=some (.int .u32 x.st):=blk_cell G3.out.F 2;have c4:w3.cell? ⟨w.heap.size,4,none⟩=some (.slice da x.data.length dc):=blk_cell G3.out.F 4;have c5:w3.cell? ⟨w.heap.size,5,none⟩=some (.int .u32 x.pr):=blk_cell G3.out.F 5;have c9:w3.cell? ⟨w.heap.size,9,none⟩=some (.bool x.hp):=blk_cell G3.out.F 9)
   | (go_at_call 35;refine (headerBytesS_any _ 0 (x.fl+8) x.st _ (by omega) (by omega) (by omega) (by omega) (by omega) (by omega) HOK.out.st.1 (by have:=HOK.out.st;omega)).mono ?_;intro e vh hrh;obtain ⟨rah,rch,rfl,bh,oh,fh⟩:=retB_n (n:=9) rfl hrh;have Gh:=Lib.hid (G3.out.below bh);have fh':=fh.mono G3.out.B.size)
   | (at_builtin;refine wpList_app E5 rfl _ _ rfl (.slice rah 9 rch) 9 _ rfl oh (1+x.data.length+pad.length) (bv ([(pad.length:Int)]++x.data++pad)) (src_of_row Tryz.underlying22 Gh.out.own (bv_one _)) (by omega) (by unfold maxLen;omega) ?_;intro a' c' w' o' g' t'))
 go_ret
 refine ⟨.slice a' (9+(1+x.data.length+pad.length)) c',rfl,Below.app Gh.out.B Gh.out.B.size g' fh',?_,Fresh.app fh' Gh.out.B.size t'⟩
 rw [←HLL.out]
 rw [List.length_append,show (hdrS (1+(x.data.length:Int)+(pad.length:Int)) 0 (x.fl+8) x.st).length=9 from rfl,Gh.out.len,bv_append]
 exact o'
theorem byt_1ff {w:World} {x:Fr} {dv sv:Value} {pad:List Int} {pa:Option Addr} {pc:Nat} (hok:Pl.Legal x pad false) (hd:RdB w dv x.data) (hs:RdP w sv x.set) (hp:RdB w (.slice pa pad.length pc) pad) (ht:x.ty=1) (hh:x.hp=false) :
   Calls Tryz.prog 17 #[.agg (frX x dv sv),.slice pa pad.length pc,.bool false] w (RetB w (Pl.wBytes x pad false)):=by
 obtain ⟨sa,sc,rfl,-,-⟩:=id hs
 obtain ⟨da,dc,rfl,-,-⟩:=id hd
 have hdl:=hok.dl
 have hpl:=hok.pl
 have hfl:=hok.fl
 unfold Pl.flOk at hfl
 simp [ht] at hfl
 have hfl1:0≤x.fl∧x.fl<6:=by omega
 obtain ⟨hfa,hfb⟩:=hfl1
 have hfl4:x.fl=0∨x.fl=1∨x.fl=4∨x.fl=5:=by omega
 skip
 have eW:Pl.wBytes x pad false=hdrS ((x.data:List Int).length:Nat) 1 (x.fl) x.st++(x.data):=by
   unfold Pl.wBytes Pl.wPay Pl.wFl hdrS Pl.wHd
   simp [ht,hh,be32_w]
 have hN:((x.data:List Int).length:Int)=(x.data.length:Int):=by
   simp [wDep_n,be32_n]<;>omega
 rw [hN] at eW
 rw [eW]
 have HOK:=Lib.hid hok
 have HD:=Lib.hid hd
 have HP:=Lib.hid hp
 have DEP:=Lib.hid fun w=>dep_any (x:=x) (dv:=.slice da x.data.length dc) (sv:=.slice sa x.set.length sc) w hok.dep.1 hok.dep.2 hok.wt.1 hok.wt.2
 have hw8:=wrap_u8 (n:=pad.length) (by omega) (by omega)
 have G0:=Lib.hid (Gr.start w #[.int .i64 1,.int .i64 x.fl,.int .u32 x.st,.int .i64 x.ln,.slice da x.data.length dc,.int .u32 x.pr,.int .u32 x.la,.int .u32 x.co,.int .u32 x.inc,.bool false,.bool x.ex,.int .u32 x.dep,.int .i64 x.wt,.slice sa x.set.length sc])
 unfold frX frameC at DEP ⊢
 rw [ht,hh] at DEP ⊢
 clear hok hd hp eW hfl hs hN hfl4
 go_enter Tryz.func17,Tryz.ntmps17
 go_wp2_with (first
   | (at_builtin;refine wpList_app E5 rfl _ _ rfl (.slice none 0 0) (0) (bv ([])) rfl G0.out.own (x.data.length) (bv (x.data)) (src_of_rd (HD.out.below G0.out.B)) (by omega) (by unfold maxLen;omega) ?_;intro a21 c21 w1 o1x g1 t1;have G1:Hid (Gr w #[.int .i64 1,.int .i64 x.fl,.int .u32 x.st,.int .i64 x.ln,.slice da x.data.length dc,.int .u32 x.pr,.int .u32 x.la,.int .u32 x.co,.int .u32 x.inc,.bool false,.bool x.ex,.int .u32 x.dep,.int .i64 x.wt,.slice sa x.set.length sc] (.slice a21 (x.data.length) c21) (x.data.length) (x.data) w1):=Lib.hid (G0.out.app0 (k:=x.data) rfl o1x g1 t1);have c0:w1.cell? ⟨w.heap.size,0,none⟩=some (.int .i64 1):=blk_cell G1.out.F 0;have c2:w1.cell? ⟨w.heap.size,2,none⟩=some (.int .u32 x.st):=blk_cell G1.out.F 2;have c4:w1.cell? ⟨w.heap.size,4,none⟩=some (.slice da x.data.length dc):=blk_cell G1.out.F 4;have c5:w1.cell? ⟨w.heap.size,5,none⟩=some (.int .u32 x.pr):=blk_cell G1.out.F 5;have c9:w1.cell? ⟨w.heap.size,9,none⟩=some (.bool false):=blk_cell G1.out.F 9)
   | (go_at_call 35;refine (headerBytesS_any _ 1 x.fl x.st _ (by omega) (by omega) (by omega) (by omega) (by omega) (by omega) HOK.out.st.1 (by have:=HOK.out.st;omega)).mono ?_;intro e vh hrh;obtain ⟨rah,rch,rfl,bh,oh,fh⟩:=retB_n (n:=9) rfl hrh;have Gh:=Lib.hid (G1.out.below bh);have fh':=fh.mono G1.out.B.size)
   | (at_builtin;refine wpList_app E5 rfl _ _ rfl (.slice rah 9 rch) 9 _ rfl oh (x.data.length) (bv (x.data)) (src_of_row Tryz.underlying22 Gh.out.own (bv_one _)) (by omega) (by unfold maxLen;omega) ?_;intro a' c' w' o' g' t'))
 go_ret
 refine ⟨.slice a' (9+(x.data.length)) c',rfl,Below.app Gh.out.B Gh.out.B.size g' fh',?_,Fresh.app fh' Gh.out.B.size t'⟩
 rw [List.length_append,show (hdrS ((x.data.length:Int)) 1 (x.fl) x.st).length=9 from rfl,Gh.out.len,bv_append]
 exact o'
theorem byt_1ft {w:World} {x:Fr} {dv sv:Value} {pad:List Int} {pa:Option Addr} {pc:Nat} (hok:Pl.Legal x pad false) (hd:RdB w dv x.data) (hs:RdP w sv x.set) (hp:RdB w (.slice pa pad.length pc) pad) (ht:x.ty=1) (hh:x.hp=true) :
   Calls Tryz.prog 17 #[.agg (frX x dv sv),.slice pa pad.length pc,.bool false] w (RetB w (Pl.wBytes x pad false)):=by
 obtain ⟨sa,sc,rfl,-,-⟩:=id hs
 obtain ⟨da,dc,rfl,-,-⟩:=id hd
 have hdl:=hok.dl
 have hpl:=hok.pl
 have hfl:=hok.fl
 unfold Pl.flOk at hfl
 simp [ht] at hfl
 have hfl1:0≤x.fl∧x.fl<6:=by omega
 obtain ⟨hfa,hfb⟩:=hfl1
 have hfl4:x.fl=0∨x.fl=1∨x.fl=4∨x.fl=5:=by omega
 have hor32:bits .or .i64 x.fl 32=x.fl+32:=by rcases hfl4 with e|e|e|e<;>rw [e]<;>decide
 have eW:Pl.wBytes x pad false=hdrS ((Pl.wDep x++x.data:List Int).length:Nat) 1 (x.fl+32) x.st++(Pl.wDep x++x.data):=by
   unfold Pl.wBytes Pl.wPay Pl.wFl hdrS Pl.wHd
   simp [ht,hh,be32_w]
 have hN:((Pl.wDep x++x.data:List Int).length:Int)=5+(x.data.length:Int):=by
   simp [wDep_n,be32_n]<;>omega
 rw [hN] at eW
 rw [eW]
 obtain ⟨LL,hLL⟩:∃q:List Int,(Pl.wDep x++x.data:List Int)=q:=⟨_,rfl⟩
 rw [hLL]
 have HLL:=Lib.hid hLL
 clear hLL
 have HOK:=Lib.hid hok
 have HD:=Lib.hid hd
 have HP:=Lib.hid hp
 have DEP:=Lib.hid fun w=>dep_any (x:=x) (dv:=.slice da x.data.length dc) (sv:=.slice sa x.set.length sc) w hok.dep.1 hok.dep.2 hok.wt.1 hok.wt.2
 have hw8:=wrap_u8 (n:=pad.length) (by omega) (by omega)
 have G0:=Lib.hid (Gr.start w #[.int .i64 1,.int .i64 x.fl,.int .u32 x.st,.int .i64 x.ln,.slice da x.data.length dc,.int .u32 x.pr,.int .u32 x.la,.int .u32 x.co,.int .u32 x.inc,.bool true,.bool x.ex,.int .u32 x.dep,.int .i64 x.wt,.slice sa x.set.length sc])
 unfold frX frameC at DEP ⊢
 rw [ht,hh] at DEP ⊢
 clear hok hd hp eW hfl hs hN hfl4
 go_enter Tryz.func17,Tryz.ntmps17
 go_wp2_with (first
   | (refine wpList_load_blk rfl 29 _ rfl w.heap.size rfl #[.int .i64 1,.int .i64 x.fl,.int .u32 x.st,.int .i64 x.ln,.slice da x.data.length dc,.int .u32 x.pr,.int .u32 x.la,.int .u32 x.co,.int .u32 x.inc,.bool true,.bool x.ex,.int .u32 x.dep,.int .i64 x.wt,.slice sa x.set.length sc] 29 G0.out.F Tryz.underlying29 infoFs ?_)
   | (go_at_call 34;refine (DEP.out _).mono ?_;intro e v1 hr1;obtain ⟨ra1,rc1,rfl,b1,o1,f1⟩:=retB_n (wDep_n x) hr1;have G1c:=Lib.hid (G0.out.below b1))
   | (at_builtin;refine wpList_app E5 rfl _ _ rfl (.slice none 0 0) (0) (bv ([])) rfl G1c.out.own (5) (bv (Pl.wDep x)) (src_of_row Tryz.underlying22 o1 (bv_one _)) (by omega) (by unfold maxLen;omega) ?_;intro a21 c21 w1 o1x g1 t1;have G1:Hid (Gr w #[.int .i64 1,.int .i64 x.fl,.int .u32 x.st,.int .i64 x.ln,.slice da x.data.length dc,.int .u32 x.pr,.int .u32 x.la,.int .u32 x.co,.int .u32 x.inc,.bool true,.bool x.ex,.int .u32 x.dep,.int .i64 x.wt,.slice sa x.set.length sc] (.slice a21 (5) c21) (5) (Pl.wDep x) w1):=Lib.hid (G1c.out.app0 (k:=Pl.wDep x) rfl o1x g1 t1);have c0:w1.cell? ⟨w.heap.size,0,none⟩=some (.int .i64 1):=blk_cell G1.out.F 0;have c2:w1.cell? ⟨w.heap.size,2,none⟩=some (.int .u32 x.st):=blk_cell G1.out.F 2;have c4:w1.cell? ⟨w.heap.size,4,none⟩=some (.slice da x.data.length dc):=blk_cell G1.out.F 4;have c5:w1.cell? ⟨w.heap.size,5,none⟩=some (.int .u32 x.pr):=blk_cell G1.out.F 5;have c9:w1.cell? ⟨w.heap.size,9,none⟩=some (.bool true):=blk_cell G1.out.F 9)
   | (at_builtin;refine wpList_app E5 rfl _ _ rfl (.slice a21 (5) c21) (5) (bv (Pl.wDep x)) rfl G1.out.own (x.data.length) (bv (x.data)) (src_of_rd (HD.out.below G1.out.B)) (by omega) (by unfold maxLen;omega) ?_;intro a22 c22 w2 o2x g2 t2;have G2:Hid (Gr w #[.int .i64 1,.int .i64 x.fl,.int .u32 x.st,.int .i64 x.ln,.slice da x.data.length dc,.int .u32 x.pr,.int .u32 x.la,.int .u32 x.co,.int .u32 x.inc,.bool true,.bool x.ex,.int .u32 x.dep,.int .i64 x.wt,.slice sa x.set.length sc] (.slice a22 (5+x.data.length) c22) (5+x.data.length) (Pl.wDep x++x.data) w2):=Lib.hid (G1.out.app (k:=x.data) rfl o2x g2 t2);have c0:w2.cell? ⟨w.heap.size,0,none⟩=some (.int .i64 1):=blk_cell G2.out.F 0;have c2:w2.cell? ⟨w.heap.size,2,none⟩=some (.int .u32 x.st):=blk_cell G2.out.F 2;have c4:w2.cell? ⟨w.heap.size,4,none⟩=some (.slice da x.data.length dc):=blk_cell G2.out.F 4;have c5:w2.cell? ⟨w.heap.size,5,none⟩=some (.int .u32 x.pr):=blk_cell G2.out.F 5;have c9:w2.cell? ⟨w.heap.size,9,none⟩=some (.bool true):=blk_cell G2.out.F 9)
   | (go_at_call 35;refine (headerBytesS_any _ 1 (x.fl+32) x.st _ (by omega) (by omega) (by omega) (by omega) (by omega) (by omega) HOK.out.st.1 (by have:=HOK.out.st;omega)).mono ?_;intro e vh hrh;obtain ⟨rah,rch,rfl,bh,oh,fh⟩:=retB_n (n:=9) rfl hrh;have Gh:=Lib.hid (G2.out.below bh);have fh':=fh.mono G2.out.B.size)
   | (at_builtin;refine wpList_app E5 rfl _ _ rfl (.slice rah 9 rch) 9 _ rfl oh (5+x.data.length) (bv (Pl.wDep x++x.data)) (src_of_row Tryz.underlying22 Gh.out.own (bv_one _)) (by omega) (by unfold maxLen;omega) ?_;intro a' c' w' o' g' t'))
 go_ret
 refine ⟨.slice a' (9+(5+x.data.length)) c',rfl,Below.app Gh.out.B Gh.out.B.size g' fh',?_,Fresh.app fh' Gh.out.B.size t'⟩
 rw [←HLL.out]
 rw [List.length_append,show (hdrS (5+(x.data.length:Int)) 1 (x.fl+32) x.st).length=9 from rfl,Gh.out.len,bv_append]
 exact o'
theorem byt_1tf {w:World} {x:Fr} {dv sv:Value} {pad:List Int} {pa:Option Addr} {pc:Nat} (hok:Pl.Legal x pad true) (hd:RdB w dv x.data) (hs:RdP w sv x.set) (hp:RdB w (.slice pa pad.length pc) pad) (ht:x.ty=1) (hh:x.hp=false) :
   Calls Tryz.prog 17 #[.agg (frX x dv sv),.slice pa pad.length pc,.bool true] w (RetB w (Pl.wBytes x pad true)):=by
 obtain ⟨sa,sc,rfl,-,-⟩:=id hs
 obtain ⟨da,dc,rfl,-,-⟩:=id hd
 have hdl:=hok.dl
 have hpl:=hok.pl
 have hfl:=hok.fl
 unfold Pl.flOk at hfl
 simp [ht] at hfl
 have hfl1:0≤x.fl∧x.fl<6:=by omega
 obtain ⟨hfa,hfb⟩:=hfl1
 have hfl4:x.fl=0∨x.fl=1∨x.fl=4∨x.fl=5:=by omega
 have hor8:bits .or .i64 x.fl 8=x.fl+8:=by rcases hfl4 with e|e|e|e<;>rw [e]<;>decide
 have eW:Pl.wBytes x pad true=hdrS (([(pad.length:Int)]++x.data++pad:List Int).length:Nat) 1 (x.fl+8) x.st++([(pad.length:Int)]++x.data++pad):=by
   unfold Pl.wBytes Pl.wPay Pl.wFl hdrS Pl.wHd
   simp [ht,hh,be32_w]
 have hN:(([(pad.length:Int)]++x.data++pad:List Int).length:Int)=1+(x.data.length:Int)+(pad.length:Int):=by
   simp [wDep_n,be32_n]<;>omega
 rw [hN] at eW
 rw [eW]
 obtain ⟨LL,hLL⟩:∃q:List Int,([(pad.length:Int)]++x.data++pad:List Int)=q:=⟨_,rfl⟩
 rw [hLL]
 have HLL:=Lib.hid hLL
 clear hLL
 have HOK:=Lib.hid hok
 have HD:=Lib.hid hd
 have HP:=Lib.hid hp
 have DEP:=Lib.hid fun w=>dep_any (x:=x) (dv:=.slice da x.data.length dc) (sv:=.slice sa x.set.length sc) w hok.dep.1 hok.dep.2 hok.wt.1 hok.wt.2
 have hw8:=wrap_u8 (n:=pad.length) (by omega) (by omega)
 have G0:=Lib.hid (Gr.start w #[.int .i64 1,.int .i64 x.fl,.int .u32 x.st,.int .i64 x.ln,.slice da x.data.length dc,.int .u32 x.pr,.int .u32 x.la,.int .u32 x.co,.int .u32 x.inc,.bool false,.bool x.ex,.int .u32 x.dep,.int .i64 x.wt,.slice sa x.set.length sc])
 unfold frX frameC at DEP ⊢
 rw [ht,hh] at DEP ⊢
 clear hok hd hp eW hfl hs hN hfl4
 go_enter Tryz.func17,Tryz.ntmps17
 go_wp2_with (first
   | (at_builtin;refine wpList_app E5 rfl _ _ rfl (.slice none 0 0) (0) (bv ([])) rfl (own_alloc G0.out.own _) (1) [.int .u8 pad.length] (src_of_block Tryz.underlying22 (blk_at _ _ (by simp)) rfl (by simp [Value.oneCell'])) (by omega) (by unfold maxLen;omega) ?_;intro a21 c21 w1 o1x g1 t1;have G1:Hid (Gr w #[.int .i64 1,.int .i64 x.fl,.int .u32 x.st,.int .i64 x.ln,.slice da x.data.length dc,.int .u32 x.pr,.int .u32 x.la,.int .u32 x.co,.int .u32 x.inc,.bool false,.bool x.ex,.int .u32 x.dep,.int .i64 x.wt,.slice sa x.set.length sc] (.slice a21 (1) c21) (1) ([(pad.length:Int)]) w1):=Lib.hid ((G0.out.alloc _).app0 (k:=[(pad.length:Int)]) rfl o1x g1 t1);have c0:w1.cell? ⟨w.heap.size,0,none⟩=some (.int .i64 1):=blk_cell G1.out.F 0;have c2:w1.cell? ⟨w.heap.size,2,none⟩=some (.int .u32 x.st):=blk_cell G1.out.F 2;have c4:w1.cell? ⟨w.heap.size,4,none⟩=some (.slice da x.data.length dc):=blk_cell G1.out.F 4;have c5:w1.cell? ⟨w.heap.size,5,none⟩=some (.int .u32 x.pr):=blk_cell G1.out.F 5;have c9:w1.cell? ⟨w.heap.size,9,none⟩=some (.bool false):=blk_cell G1.out.F 9)
   | (at_builtin;refine wpList_app E5 rfl _ _ rfl (.slice a21 (1) c21) (1) (bv ([(pad.length:Int)])) rfl G1.out.own (x.data.length) (bv (x.data)) (src_of_rd (HD.out.below G1.out.B)) (by omega) (by unfold maxLen;omega) ?_;intro a22 c22 w2 o2x g2 t2;have G2:Hid (Gr w #[.int .i64 1,.int .i64 x.fl,.int .u32 x.st,.int .i64 x.ln,.slice da x.data.length dc,.int .u32 x.pr,.int .u32 x.la,.int .u32 x.co,.int .u32 x.inc,.bool false,.bool x.ex,.int .u32 x.dep,.int .i64 x.wt,.slice sa x.set.length sc] (.slice a22 (1+x.data.length) c22) (1+x.data.length) ([(pad.length:Int)]++x.data) w2):=Lib.hid (G1.out.app (k:=x.data) rfl o2x g2 t2);have c0:w2.cell? ⟨w.heap.size,0,none⟩=some (.int .i64 1):=blk_cell G2.out.F 0;have c2:w2.cell? ⟨w.heap.size,2,none⟩=some (.int .u32 x.st):=blk_cell G2.out.F 2;have c4:w2.cell? ⟨w.heap.size,4,none⟩=some (.slice da x.data.length dc):=blk_cell G2.out.F 4;have c5:w2.cell? ⟨w.heap.size,5,none⟩=some (.int .u32 x.pr):=blk_cell G2.out.F 5;have c9:w2.cell? ⟨w.heap.size,9,none⟩=some (.bool false):=blk_cell G2.out.F 9)
   | (at_builtin;refine wpList_app E5 rfl _ _ rfl (.slice a22 (1+x.data.length) c22) (1+x.data.length) (bv ([(pad.length:Int)]++x.data)) rfl G2.out.own (pad.length) (bv (pad)) (src_of_rd (HP.out.below G2.out.B)) (by omega) (by unfold maxLen;omega) ?_;intro a23 c23 w3 o3x g3 t3;have G3:Hid (Gr w #[.int .i64 1,.int .i64 x.fl,.int .u32 x.st,.int .i64 x.ln,.slice da x.data.length dc,.int .u32 x.pr,.int .u32 x.la,.int .u32 x.co,.int .u32 x.inc,.bool false,.bool x.ex,.int .u32 x.dep,.int .i64 x.wt,.slice sa x.set.length sc] (.slice a23 (1+x.data.length+pad.length) c23) (1+x.data.length+pad.length) ([(pad.length:Int)]++x.data++pad) w3):=Lib.hid (G2.out.app (k:=pad) rfl o3x g3 t3);have c0:w3.cell? ⟨w.heap.size,0,none⟩=some (.int .i64 1):=blk_cell G3.out.F 0;have c2:w3.cell? ⟨w.heap.size,2,none⟩=some (.int .u32 x.st):=blk_cell G3.out.F 2;have c4:w3.cell? ⟨w.heap.size,4,none⟩=some (.slice da x.data.length dc):=blk_cell G3.out.F 4;have c5:w3.cell? ⟨w.heap.size,5,none⟩=some (.int .u32 x.pr):=blk_cell G3.out.F 5;have c9:w3.cell? ⟨w.heap.size,9,none⟩=some (.bool false):=blk_cell G3.out.F 9)
   | (go_at_call 35;refine (headerBytesS_any _ 1 (x.fl+8) x.st _ (by omega) (by omega) (by omega) (by omega) (by omega) (by omega) HOK.out.st.1 (by have:=HOK.out.st;omega)).mono ?_;intro e vh hrh;obtain ⟨rah,rch,rfl,bh,oh,fh⟩:=retB_n (n:=9) rfl hrh;have Gh:=Lib.hid (G3.out.below bh);have fh':=fh.mono G3.out.B.size)
   | (at_builtin;refine wpList_app E5 rfl _ _ rfl (.slice rah 9 rch) 9 _ rfl oh (1+x.data.length+pad.length) (bv ([(pad.length:Int)]++x.data++pad)) (src_of_row Tryz.underlying22 Gh.out.own (bv_one _)) (by omega) (by unfold maxLen;omega) ?_;intro a' c' w' o' g' t'))
 go_ret
 refine ⟨.slice a' (9+(1+x.data.length+pad.length)) c',rfl,Below.app Gh.out.B Gh.out.B.size g' fh',?_,Fresh.app fh' Gh.out.B.size t'⟩
 rw [←HLL.out]
 rw [List.length_append,show (hdrS (1+(x.data.length:Int)+(pad.length:Int)) 1 (x.fl+8) x.st).length=9 from rfl,Gh.out.len,bv_append]
 exact o'
theorem byt_1tt {w:World} {x:Fr} {dv sv:Value} {pad:List Int} {pa:Option Addr} {pc:Nat} (hok:Pl.Legal x pad true) (hd:RdB w dv x.data) (hs:RdP w sv x.set) (hp:RdB w (.slice pa pad.length pc) pad) (ht:x.ty=1) (hh:x.hp=true) :
   Calls Tryz.prog 17 #[.agg (frX x dv sv),.slice pa pad.length pc,.bool true] w (RetB w (Pl.wBytes x pad true)):=by
 obtain ⟨sa,sc,rfl,-,-⟩:=id hs
 obtain ⟨da,dc,rfl,-,-⟩:=id hd
 have hdl:=hok.dl
 have hpl:=hok.pl
 have hfl:=hok.fl
 unfold Pl.flOk at hfl
 simp [ht] at hfl
 have hfl1:0≤x.fl∧x.fl<6:=by omega
 obtain ⟨hfa,hfb⟩:=hfl1
 have hfl4:x.fl=0∨x.fl=1∨x.fl=4∨x.fl=5:=by omega
 have hor8:bits .or .i64 x.fl 8=x.fl+8:=by rcases hfl4 with e|e|e|e<;>rw [e]<;>decide
 have hor40:bits .or .i64 (x.fl+8) 32=x.fl+8+32:=by rcases hfl4 with e|e|e|e<;>rw [e]<;>decide
 have eW:Pl.wBytes x pad true=hdrS (([(pad.length:Int)]++Pl.wDep x++x.data++pad:List Int).length:Nat) 1 (x.fl+8+32) x.st++([(pad.length:Int)]++Pl.wDep x++x.data++pad):=by
   unfold Pl.wBytes Pl.wPay Pl.wFl hdrS Pl.wHd
   simp [ht,hh,be32_w]
 have hN:(([(pad.length:Int)]++Pl.wDep x++x.data++pad:List Int).length:Int)=6+(x.data.length:Int)+(pad.length:Int):=by
   simp [wDep_n,be32_n]<;>omega
 rw [hN] at eW
 rw [eW]
 obtain ⟨LL,hLL⟩:∃q:List Int,([(pad.length:Int)]++Pl.wDep x++x.data++pad:List Int)=q:=⟨_,rfl⟩
 rw [hLL]
 have HLL:=Lib.hid hLL
 clear hLL
 have HOK:=Lib.hid hok
 have HD:=Lib.hid hd
 have HP:=Lib.hid hp
 have DEP:=Lib.hid fun w=>dep_any (x:=x) (dv:=.slice da x.data.length dc) (sv:=.slice sa x.set.length sc) w hok.dep.1 hok.dep.2 hok.wt.1 hok.wt.2
 have hw8:=wrap_u8 (n:=pad.length) (by omega) (by omega)
 have G0:=Lib.hid (Gr.start w #[.int .i64 1,.int .i64 x.fl,.int .u32 x.st,.int .i64 x.ln,.slice da x.data.length dc,.int .u32 x.pr,.int .u32 x.la,.int .u32 x.co,.int .u32 x.inc,.bool true,.bool x.ex,.int .u32 x.dep,.int .i64 x.wt,.slice sa x.set.length sc])
 unfold frX frameC at DEP ⊢
 rw [ht,hh] at DEP ⊢
 clear hok hd hp eW hfl hs hN hfl4
 go_enter Tryz.func17,Tryz.ntmps17
 go_wp2_with (first
   | (at_builtin;refine wpList_app E5 rfl _ _ rfl (.slice none 0 0) (0) (bv ([])) rfl (own_alloc G0.out.own _) (1) [.int .u8 pad.length] (src_of_block Tryz.underlying22 (blk_at _ _ (by simp)) rfl (by simp [Value.oneCell'])) (by omega) (by unfold maxLen;omega) ?_;intro a21 c21 w1 o1x g1 t1;have G1:Hid (Gr w #[.int .i64 1,.int .i64 x.fl,.int .u32 x.st,.int .i64 x.ln,.slice da x.data.length dc,.int .u32 x.pr,.int .u32 x.la,.int .u32 x.co,.int .u32 x.inc,.bool true,.bool x.ex,.int .u32 x.dep,.int .i64 x.wt,.slice sa x.set.length sc] (.slice a21 (1) c21) (1) ([(pad.length:Int)]) w1):=Lib.hid ((G0.out.alloc _).app0 (k:=[(pad.length:Int)]) rfl o1x g1 t1);have c0:w1.cell? ⟨w.heap.size,0,none⟩=some (.int .i64 1):=blk_cell G1.out.F 0;have c2:w1.cell? ⟨w.heap.size,2,none⟩=some (.int .u32 x.st):=blk_cell G1.out.F 2;have c4:w1.cell? ⟨w.heap.size,4,none⟩=some (.slice da x.data.length dc):=blk_cell G1.out.F 4;have c5:w1.cell? ⟨w.heap.size,5,none⟩=some (.int .u32 x.pr):=blk_cell G1.out.F 5;have c9:w1.cell? ⟨w.heap.size,9,none⟩=some (.bool true):=blk_cell G1.out.F 9)
   | (refine wpList_load_blk rfl 29 _ rfl w.heap.size rfl #[.int .i64 1,.int .i64 x.fl,.int .u32 x.st,.int .i64 x.ln,.slice da x.data.length dc,.int .u32 x.pr,.int .u32 x.la,.int .u32 x.co,.int .u32 x.inc,.bool true,.bool x.ex,.int .u32 x.dep,.int .i64 x.wt,.slice sa x.set.length sc] 29 G1.out.F Tryz.underlying29 infoFs ?_)
   | (go_at_call 34;refine (DEP.out _).mono ?_;intro e v2 hr2;obtain ⟨ra2,rc2,rfl,b2,o2,f2⟩:=retB_n (wDep_n x) hr2;have G2c:=Lib.hid (G1.out.below b2))
   | (at_builtin;refine wpList_app E5 rfl _ _ rfl (.slice a21 (1) c21) (1) (bv ([(pad.length:Int)])) rfl G2c.out.own (5) (bv (Pl.wDep x)) (src_of_row Tryz.underlying22 o2 (bv_one _)) (by omega) (by unfold maxLen;omega) ?_;intro a22 c22 w2 o2x g2 t2;have G2:Hid (Gr w #[.int .i64 1,.int .i64 x.fl,.int .u32 x.st,.int .i64 x.ln,.slice da x.data.length dc,.int .u32 x.pr,.int .u32 x.la,.int .u32 x.co,.int .u32 x.inc,.bool true,.bool x.ex,.int .u32 x.dep,.int .i64 x.wt,.slice sa x.set.length sc] (.slice a22 (6) c22) (6) ([(pad.length:Int)]++Pl.wDep x) w2):=Lib.hid (G2c.out.app (k:=Pl.wDep x) rfl o2x g2 t2);have c0:w2.cell? ⟨w.heap.size,0,none⟩=some (.int .i64 1):=blk_cell G2.out.F 0;have c2:w2.cell? ⟨w.heap.size,2,none⟩=some (.int .u32 x.st):=blk_cell G2.out.F 2;have c4:w2.cell? ⟨w.heap.size,4,none⟩=some (.slice da x.data.length dc):=blk_cell G2.out.F 4;have c5:w2.cell? ⟨w.heap.size,5,none⟩=some (.int .u32 x.pr):=blk_cell G2.out.F 5;have c9:w2.cell? ⟨w.heap.size,9,none⟩=some (.bool true):=blk_cell G2.out.F 9)
   | (at_builtin;refine wpList_app E5 rfl _ _ rfl (.slice a22 (6) c22) (6) (bv ([(pad.length:Int)]++Pl.wDep x)) rfl G2.out.own (x.data.length) (bv (x.data)) (src_of_rd (HD.out.below G2.out.B)) (by omega) (by unfold maxLen;omega) ?_;intro a23 c23 w3 o3x g3 t3;have G3:Hid (Gr w #[.int .i64 1,.int .i64 x.fl,.int .u32 x.st,.int .i64 x.ln,.slice da x.data.length dc,.int .u32 x.pr,.int .u32 x.la,.int .u32 x.co,.int .u32 x.inc,.bool true,.bool x.ex,.int .u32 x.dep,.int .i64 x.wt,.slice sa x.set.length sc] (.slice a23 (6+x.data.length) c23) (6+x.data.length) ([(pad.length:Int)]++Pl.wDep x++x.data) w3):=Lib.hid (G2.out.app (k:=x.data) rfl o3x g3 t3);have c0:w3.cell? ⟨w.heap.size,0,none⟩=some (.int .i64 1):=blk_cell G3.out.F 0;have c2:w3.cell? ⟨w.heap.size,2,none⟩=some (.int .u32 x.st):=blk_cell G3.out.F 2;have c4:w3.cell? ⟨w.heap.size,4,none⟩=some (.slice da x.data.length dc):=blk_cell G3.out.F 4;have c5:w3.cell? ⟨w.heap.size,5,none⟩=some (.int .u32 x.pr):=blk_cell G3.out.F 5;have c9:w3.cell? ⟨w.heap.size,9,none⟩=some (.bool true):=blk_cell G3.out.F 9)
   | (at_builtin;refine wpList_app E5 rfl _ _ rfl (.slice a23 (6+x.data.length) c23) (6+x.data.length) (bv ([(pad.length:Int)]++Pl.wDep x++x.data)) rfl G3.out.own (pad.length) (bv (pad)) (src_of_rd (HP.out.below G3.out.B)) (by omega) (by unfold maxLen;omega) ?_;intro a24 c24 w4 o4x g4 t4;have G4:Hid (Gr w #[.int .i64 1,.int .i64 x.fl,.int .u32 x.st,.int .i64 x.ln,.slice da x.data.length dc,.int .u32 x.pr,.int .u32 x.la,.int .u32 x.co,.int .u32 x.inc,.bool true,.bool x.ex,.int .u32 x.dep,.int .i64 x.wt,.slice sa x.set.length sc] (.slice a24 (6+x.data.length+pad.length) c24) (6+x.data.length+pad.length) ([(pad.length:Int)]++Pl.wDep x++x.data++pad) w4):=Lib.hid (G3.out.app (k:=pad) rfl o4x g4 t4);have c0:w4.cell? ⟨w.heap.size,0,none⟩=some (.int .i64 1):=blk_cell G4.out.F 0;have c2:w4.cell? ⟨w.heap.size,2,none⟩=some (.int .u32 x.st):=blk_cell G4.out.F 2;have c4:w4.cell? ⟨w.heap.size,4,none⟩=some (.slice da x.data.length dc):=blk_cell G4.out.F 4;have c5:w4.cell? ⟨w.heap.size,5,none⟩=some (.int .u32 x.pr):=blk_cell G4.out.F 5;have c9:w4.cell? ⟨w.heap.size,9,none⟩=some (.bool true):=blk_cell G4.out.F 9)
   | (go_at_call 35;refine (headerBytesS_any _ 1 (x.fl+8+32) x.st _ (by omega) (by omega) (by omega) (by omega) (by omega) (by omega) HOK.out.st.1 (by have:=HOK.out.st;omega)).mono ?_;intro e vh hrh;obtain ⟨rah,rch,rfl,bh,oh,fh⟩:=retB_n (n:=9) rfl hrh;have Gh:=Lib.hid (G4.out.below bh);have fh':=fh.mono G4.out.B.size)
   | (at_builtin;refine wpList_app E5 rfl _ _ rfl (.slice rah 9 rch) 9 _ rfl oh (6+x.data.length+pad.length) (bv ([(pad.length:Int)]++Pl.wDep x++x.data++pad)) (src_of_row Tryz.underlying22 Gh.out.own (bv_one _)) (by omega) (by unfold maxLen;omega) ?_;intro a' c' w' o' g' t'))
 go_ret
 refine ⟨.slice a' (9+(6+x.data.length+pad.length)) c',rfl,Below.app Gh.out.B Gh.out.B.size g' fh',?_,Fresh.app fh' Gh.out.B.size t'⟩
 rw [←HLL.out]
 rw [List.length_append,show (hdrS (6+(x.data.length:Int)+(pad.length:Int)) 1 (x.fl+8+32) x.st).length=9 from rfl,Gh.out.len,bv_append]
 exact o'
theorem byt_5f {w:World} {x:Fr} {dv sv:Value} {pad:List Int} {pa:Option Addr} {pc:Nat} (hok:Pl.Legal x pad false) (hd:RdB w dv x.data) (hs:RdP w sv x.set) (hp:RdB w (.slice pa pad.length pc) pad) (ht:x.ty=5) :
   Calls Tryz.prog 17 #[.agg (frX x dv sv),.slice pa pad.length pc,.bool false] w (RetB w (Pl.wBytes x pad false)):=by
 obtain ⟨sa,sc,rfl,-,-⟩:=id hs
 obtain ⟨da,dc,rfl,-,-⟩:=id hd
 have hdl:=hok.dl
 have hpl:=hok.pl
 have hfl:=hok.fl
 unfold Pl.flOk at hfl
 simp [ht] at hfl
 have hfl1:0≤x.fl∧x.fl<6:=by omega
 obtain ⟨hfa,hfb⟩:=hfl1
 have hfl4:x.fl=0∨x.fl=1∨x.fl=4∨x.fl=5:=by omega
 skip
 have eW:Pl.wBytes x pad false=hdrS ((be32 x.pr++x.data:List Int).length:Nat) 5 (x.fl) x.st++(be32 x.pr++x.data):=by
   unfold Pl.wBytes Pl.wPay Pl.wFl hdrS Pl.wHd
   simp [ht,be32_w]
 have hN:((be32 x.pr++x.data:List Int).length:Int)=4+(x.data.length:Int):=by
   simp [wDep_n,be32_n]<;>omega
 rw [hN] at eW
 rw [eW]
 obtain ⟨LL,hLL⟩:∃q:List Int,(be32 x.pr++x.data:List Int)=q:=⟨_,rfl⟩
 rw [hLL]
 have HLL:=Lib.hid hLL
 clear hLL
 have HOK:=Lib.hid hok
 have HD:=Lib.hid hd
 have HP:=Lib.hid hp
 have DEP:=Lib.hid fun w=>dep_any (x:=x) (dv:=.slice da x.data.length dc) (sv:=.slice sa x.set.length sc) w hok.dep.1 hok.dep.2 hok.wt.1 hok.wt.2
 have hw8:=wrap_u8 (n:=pad.length) (by omega) (by omega)
 have G0:=Lib.hid (Gr.start w #[.int .i64 5,.int .i64 x.fl,.int .u32 x.st,.int .i64 x.ln,.slice da x.data.length dc,.int .u32 x.pr,.int .u32 x.la,.int .u32 x.co,.int .u32 x.inc,.bool x.hp,.bool x.ex,.int .u32 x.dep,.int .i64 x.wt,.slice sa x.set.length sc])
 unfold frX frameC at DEP ⊢
 rw [ht] at DEP ⊢
 clear hok hd hp eW hfl hs hN hfl4
 go_enter Tryz.func17,Tryz.ntmps17
 go_wp2_with (first
   | (go_at_call 33;refine (bytes4 x.pr _ HOK.out.pr.1 (by have:=HOK.out.pr;omega)).mono ?_;intro e v1 hr1;obtain ⟨ra1,rc1,rfl,b1,o1,f1⟩:=retB_n (be32_n x.pr) hr1;have G1c:=Lib.hid (G0.out.below b1))
   | (at_builtin;refine wpList_app E5 rfl _ _ rfl (.slice none 0 0) (0) (bv ([])) rfl G1c.out.own (4) (bv (be32 x.pr)) (src_of_row Tryz.underlying22 o1 (bv_one _)) (by omega) (by unfold maxLen;omega) ?_;intro a21 c21 w1 o1x g1 t1;have G1:Hid (Gr w #[.int .i64 5,.int .i64 x.fl,.int .u32 x.st,.int .i64 x.ln,.slice da x.data.length dc,.int .u32 x.pr,.int .u32 x.la,.int .u32 x.co,.int .u32 x.inc,.bool x.hp,.bool x.ex,.int .u32 x.dep,.int .i64 x.wt,.slice sa x.set.length sc] (.slice a21 (4) c21) (4) (be32 x.pr) w1):=Lib.hid (G1c.out.app0 (k:=be32 x.pr) rfl o1x g1 t1);have c0:w1.cell? ⟨w.heap.size,0,none⟩=some (.int .i64 5):=blk_cell G1.out.F 0;have c2:w1.cell? ⟨w.heap.size,2,none⟩=some (.int .u32 x.st):=blk_cell G1.out.F 2;have c4:w1.cell? ⟨w.heap.size,4,none⟩=some (.slice da x.data.length dc):=blk_cell G1.out.F 4;have c5:w1.cell? ⟨w.heap.size,5,none⟩=some (.int .u32 x.pr):=blk_cell G1.out.F 5;have c9:w1.cell? ⟨w.heap.size,9,none⟩=some (.bool x.hp):=blk_cell G1.out.F 9)
   | (at_builtin;refine wpList_app E5 rfl _ _ rfl (.slice a21 (4) c21) (4) (bv (be32 x.pr)) rfl G1.out.own (x.data.length) (bv (x.data)) (src_of_rd (HD.out.below G1.out.B)) (by omega) (by unfold maxLen;omega) ?_;intro a22 c22 w2 o2x g2 t2;have G2:Hid (Gr w #[.int .i64 5,.int .i64 x.fl,.int .u32 x.st,.int .i64 x.ln,.slice da x.data.length dc,.int .u32 x.pr,.int .u32 x.la,.int .u32 x.co,.int .u32 x.inc,.bool x.hp,.bool x.ex,.int .u32 x.dep,.int .i64 x.wt,.slice sa x.set.length sc] (.slice a22 (4+x.data.length) c22) (4+x.data.length) (be32 x.pr++x.data) w2):=Lib.hid (G1.out.app (k:=x.data) rfl o2x g2 t2);have c0:w2.cell? ⟨w.heap.size,0,none⟩=some (.int .i64 5):=blk_cell G2.out.F 0;have c2:w2.cell? ⟨w.heap.size,2,none⟩=some (.int .u32 x.st):=blk_cell G2.out.F 2;have c4:w2.cell? ⟨w.heap.size,4,none⟩=some (.slice da x.data.length dc):=blk_cell G2.out.F 4;have c5:w2.cell? ⟨w.heap.size,5,none⟩=some (.int .u32 x.pr):=blk_cell G2.out.F 5;have c9:w2.cell? ⟨w.heap.size,9,none⟩=some (.bool x.hp):=blk_cell G2.out.F 9)
   | (go_at_call 35;refine (headerBytesS_any _ 5 x.fl x.st _ (by omega) (by omega) (by omega) (by omega) (by omega) (by omega) HOK.out.st.1 (by have:=HOK.out.st;omega)).mono ?_;intro e vh hrh;obtain ⟨rah,rch,rfl,bh,oh,fh⟩:=retB_n (n:=9) rfl hrh;have Gh:=Lib.hid (G2.out.below bh);have fh':=fh.mono G2.out.B.size)
   | (at_builtin;refine wpList_app E5 rfl _ _ rfl (.slice rah 9 rch) 9 _ rfl oh (4+x.data.length) (bv (be32 x.pr++x.data)) (src_of_row Tryz.underlying22 Gh.out.own (bv_one _)) (by omega) (by unfold maxLen;omega) ?_;intro a' c' w' o' g' t'))
 go_ret
 refine ⟨.slice a' (9+(4+x.data.length)) c',rfl,Below.app Gh.out.B Gh.out.B.size g' fh',?_,Fresh.app fh' Gh.out.B.size t'⟩
 rw [←HLL.out]
 rw [List.length_append,show (hdrS (4+(x.data.length:Int)) 5 (x.fl) x.st).length=9 from rfl,Gh.out.len,bv_append]
 exact o'
theorem byt_5t {w:World} {x:Fr} {dv sv:Value} {pad:List Int} {pa:Option Addr} {pc:Nat} (hok:Pl.Legal x pad true) (hd:RdB w dv x.data) (hs:RdP w sv x.set) (hp:RdB w (.slice pa pad.length pc) pad) (ht:x.ty=5) :
   Calls Tryz.prog 17 #[.agg (frX x dv sv),.slice pa pad.length pc,.bool true] w (RetB w (Pl.wBytes x pad true)):=by
 obtain ⟨sa,sc,rfl,-,-⟩:=id hs
 obtain ⟨da,dc,rfl,-,-⟩:=id hd
 have hdl:=hok.dl
 have hpl:=hok.pl
 have hfl:=hok.fl
 unfold Pl.flOk at hfl
 simp [ht] at hfl
 have hfl1:0≤x.fl∧x.fl<6:=by omega
 obtain ⟨hfa,hfb⟩:=hfl1
 have hfl4:x.fl=0∨x.fl=1∨x.fl=4∨x.fl=5:=by omega
 have hor8:bits .or .i64 x.fl 8=x.fl+8:=by rcases hfl4 with e|e|e|e<;>rw [e]<;>decide
 have eW:Pl.wBytes x pad true=hdrS (([(pad.length:Int)]++be32 x.pr++x.data++pad:List Int).length:Nat) 5 (x.fl+8) x.st++([(pad.length:Int)]++be32 x.pr++x.data++pad):=by
   unfold Pl.wBytes Pl.wPay Pl.wFl hdrS Pl.wHd
   simp [ht,be32_w]
 have hN:(([(pad.length:Int)]++be32 x.pr++x.data++pad:List Int).length:Int)=5+(x.data.length:Int)+(pad.length:Int):=by
   simp [wDep_n,be32_n]<;>omega
 rw [hN] at eW
 rw [eW]
 obtain ⟨LL,hLL⟩:∃q:List Int,([(pad.length:Int)]++be32 x.pr++x.data++pad:List Int)=q:=⟨_,rfl⟩
 rw [hLL]
 have HLL:=Lib.hid hLL
 clear hLL
 have HOK:=Lib.hid hok
 have HD:=Lib.hid hd
 have HP:=Lib.hid hp
 have DEP:=Lib.hid fun w=>dep_any (x:=x) (dv:=.slice da x.data.length dc) (sv:=.slice sa x.set.length sc) w hok.dep.1 hok.dep.2 hok.wt.1 hok.wt.2
 have hw8:=wrap_u8 (n:=pad.length) (by omega) (by omega)
 have G0:=Lib.hid (Gr.start w #[.int .i64 5,.int .i64 x.fl,.int .u32 x.st,.int .i64 x.ln,.slice da x.data.length dc,.int .u32 x.pr,.int .u32 x.la,.int .u32 x.co,.int .u32 x.inc,.bool x.hp,.bool x.ex,.int .u32 x.dep,.int .i64 x.wt,.slice sa x.set.length sc])
 unfold frX frameC at DEP ⊢
 rw [ht] at DEP ⊢
 clear hok hd hp eW hfl hs hN hfl4
 go_enter Tryz.func17,Tryz.ntmps17
 go_wp2_with (first
   | (at_builtin;refine wpList_app E5 rfl _ _ rfl (.slice none 0 0) (0) (bv ([])) rfl (own_alloc G0.out.own _) (1) [.int .u8 pad.length] (src_of_block Tryz.underlying22 (blk_at _ _ (by simp)) rfl (by simp [Value.oneCell'])) (by omega) (by unfold maxLen;omega) ?_;intro a21 c21 w1 o1x g1 t1;have G1:Hid (Gr w #[.int .i64 5,.int .i64 x.fl,.int .u32 x.st,.int .i64 x.ln,.slice da x.data.length dc,.int .u32 x.pr,.int .u32 x.la,.int .u32 x.co,.int .u32 x.inc,.bool x.hp,.bool x.ex,.int .u32 x.dep,.int .i64 x.wt,.slice sa x.set.length sc] (.slice a21 (1) c21) (1) ([(pad.length:Int)]) w1):=Lib.hid ((G0.out.alloc _).app0 (k:=[(pad.length:Int)]) rfl o1x g1 t1);have c0:w1.cell? ⟨w.heap.size,0,none⟩=some (.int .i64 5):=blk_cell G1.out.F 0;have c2:w1.cell? ⟨w.heap.size,2,none⟩=some (.int .u32 x.st):=blk_cell G1.out.F 2;have c4:w1.cell? ⟨w.heap.size,4,none⟩=some (.slice da x.data.length dc):=blk_cell G1.out.F 4;have c5:w1.cell? ⟨w.heap.size,5,none⟩=some (.int .u32 x.pr):=blk_cell G1.out.F 5;have c9:w1.cell? ⟨w.heap.size,9,none⟩=some (.bool x.hp):=blk_cell G1.out.F 9)
   | (go_at_call 33;refine (bytes4 x.pr _ HOK.out.pr.1 (by have:=HOK.out.pr;omega)).mono ?_;intro e v2 hr2;obtain ⟨ra2,rc2,rfl,b2,o2,f2⟩:=retB_n (be32_n x.pr) hr2;have G2c:=Lib.hid (G1.out.below b2))
   | (at_builtin;refine wpList_app E5 rfl _ _ rfl (.slice a21 (1) c21) (1) (bv ([(pad.length:Int)])) rfl G2c.out.own (4) (bv (be32 x.pr)) (src_of_row Tryz.underlying22 o2 (bv_one _)) (by omega) (by unfold maxLen;omega) ?_;intro a22 c22 w2 o2x g2 t2;have G2:Hid (Gr w #[.int .i64 5,.int .i64 x.fl,.int .u32 x.st,.int .i64 x.ln,.slice da x.data.length dc,.int .u32 x.pr,.int .u32 x.la,.int .u32 x.co,.int .u32 x.inc,.bool x.hp,.bool x.ex,.int .u32 x.dep,.int .i64 x.wt,.slice sa x.set.length sc] (.slice a22 (5) c22) (5) ([(pad.length:Int)]++be32 x.pr) w2):=Lib.hid (G2c.out.app (k:=be32 x.pr) rfl o2x g2 t2);have c0:w2.cell? ⟨w.heap.size,0,none⟩=some (.int .i64 5):=blk_cell G2.out.F 0;have c2:w2.cell? ⟨w.heap.size,2,none⟩=some (.int .u32 x.st):=blk_cell G2.out.F 2;have c4:w2.cell? ⟨w.heap.size,4,none⟩=some (.slice da x.data.length dc):=blk_cell G2.out.F 4;have c5:w2.cell? ⟨w.heap.size,5,none⟩=some (.int .u32 x.pr):=blk_cell G2.out.F 5;have c9:w2.cell? ⟨w.heap.size,9,none⟩=some (.bool x.hp):=blk_cell G2.out.F 9)
   | (at_builtin;refine wpList_app E5 rfl _ _ rfl (.slice a22 (5) c22) (5) (bv ([(pad.length:Int)]++be32 x.pr)) rfl G2.out.own (x.data.length) (bv (x.data)) (src_of_rd (HD.out.below G2.out.B)) (by omega) (by unfold maxLen;omega) ?_;intro a23 c23 w3 o3x g3 t3;have G3:Hid (Gr w #[.int .i64 5,.int .i64 x.fl,.int .u32 x.st,.int .i64 x.ln,.slice da x.data.length dc,.int .u32 x.pr,.int .u32 x.la,.int .u32 x.co,.int .u32 x.inc,.bool x.hp,.bool x.ex,.int .u32 x.dep,.int .i64 x.wt,.slice sa x.set.length sc] (.slice a23 (5+x.data.length) c23) (5+x.data.length) ([(pad.length:Int)]++be32 x.pr++x.data) w3):=Lib.hid (G2.out.app (k:=x.data) rfl o3x g3 t3);have c0:w3.cell? ⟨w.heap.size,0,none⟩=some (.int .i64 5):=blk_cell G3.out.F 0;have c2:w3.cell? ⟨w.heap.size,2,none⟩=some (.int .u32 x.st):=blk_cell G3.out.F 2;have c4:w3.cell? ⟨w.heap.size,4,none⟩=some (.slice da x.data.length dc):=blk_cell G3.out.F 4;have c5:w3.cell? ⟨w.heap.size,5,none⟩=some (.int .u32 x.pr):=blk_cell G3.out.F 5;have c9:w3.cell? ⟨w.heap.size,9,none⟩=some (.bool x.hp):=blk_cell G3.out.F 9)
   | (at_builtin;refine wpList_app E5 rfl _ _ rfl (.slice a23 (5+x.data.length) c23) (5+x.data.length) (bv ([(pad.length:Int)]++be32 x.pr++x.data)) rfl G3.out.own (pad.length) (bv (pad)) (src_of_rd (HP.out.below G3.out.B)) (by omega) (by unfold maxLen;omega) ?_;intro a24 c24 w4 o4x g4 t4;have G4:Hid (Gr w #[.int .i64 5,.int .i64 x.fl,.int .u32 x.st,.int .i64 x.ln,.slice da x.data.length dc,.int .u32 x.pr,.int .u32 x.la,.int .u32 x.co,.int .u32 x.inc,.bool x.hp,.bool x.ex,.int .u32 x.dep,.int .i64 x.wt,.slice sa x.set.length sc] (.slice a24 (5+x.data.length+pad.length) c24) (5+x.data.length+pad.length) ([(pad.length:Int)]++be32 x.pr++x.data++pad) w4):=Lib.hid (G3.out.app (k:=pad) rfl o4x g4 t4);have c0:w4.cell? ⟨w.heap.size,0,none⟩=some (.int .i64 5):=blk_cell G4.out.F 0;have c2:w4.cell? ⟨w.heap.size,2,none⟩=some (.int .u32 x.st):=blk_cell G4.out.F 2;have c4:w4.cell? ⟨w.heap.size,4,none⟩=some (.slice da x.data.length dc):=blk_cell G4.out.F 4;have c5:w4.cell? ⟨w.heap.size,5,none⟩=some (.int .u32 x.pr):=blk_cell G4.out.F 5;have c9:w4.cell? ⟨w.heap.size,9,none⟩=some (.bool x.hp):=blk_cell G4.out.F 9)
   | (go_at_call 35;refine (headerBytesS_any _ 5 (x.fl+8) x.st _ (by omega) (by omega) (by omega) (by omega) (by omega) (by omega) HOK.out.st.1 (by have:=HOK.out.st;omega)).mono ?_;intro e vh hrh;obtain ⟨rah,rch,rfl,bh,oh,fh⟩:=retB_n (n:=9) rfl hrh;have Gh:=Lib.hid (G4.out.below bh);have fh':=fh.mono G4.out.B.size)
   | (at_builtin;refine wpList_app E5 rfl _ _ rfl (.slice rah 9 rch) 9 _ rfl oh (5+x.data.length+pad.length) (bv ([(pad.length:Int)]++be32 x.pr++x.data++pad)) (src_of_row Tryz.underlying22 Gh.out.own (bv_one _)) (by omega) (by unfold maxLen;omega) ?_;intro a' c' w' o' g' t'))
 go_ret
 refine ⟨.slice a' (9+(5+x.data.length+pad.length)) c',rfl,Below.app Gh.out.B Gh.out.B.size g' fh',?_,Fresh.app fh' Gh.out.B.size t'⟩
 rw [←HLL.out]
 rw [List.length_append,show (hdrS (5+(x.data.length:Int)+(pad.length:Int)) 5 (x.fl+8) x.st).length=9 from rfl,Gh.out.len,bv_append]
 exact o'
theorem byt_3 {w:World} {x:Fr} {dv sv pv:Value} {pad:List Int} {pd:Bool} (hok:Pl.Legal x pad pd) (hd:RdB w dv x.data) (hs:RdP w sv x.set) (ht:x.ty=3) :
   Calls Tryz.prog 17 #[.agg (frX x dv sv),pv,.bool pd] w (RetB w (Pl.wBytes x pad pd)):=by
 obtain ⟨sa,sc,rfl,-,-⟩:=id hs
 obtain ⟨da,dc,rfl,-,-⟩:=id hd
 have hdl:=hok.dl
 have hfl:=hok.fl
 unfold Pl.flOk at hfl
 simp [ht] at hfl
 have hfa:x.fl=0:=by omega
 have eW:Pl.wBytes x pad pd=hdrS ((be32 x.co:List Int).length:Nat) 3 x.fl x.st++(be32 x.co):=by
   unfold Pl.wBytes Pl.wPay Pl.wFl hdrS Pl.wHd
   simp [ht,be32_w]
 have hN:((be32 x.co:List Int).length:Int)=4:=by
   simp [wDep_n,be32_n]<;>omega
 rw [hN] at eW
 rw [eW]
 obtain ⟨LL,hLL⟩:∃q:List Int,(be32 x.co:List Int)=q:=⟨_,rfl⟩
 rw [hLL]
 have HLL:=Lib.hid hLL
 clear hLL
 have HOK:=Lib.hid hok
 have HD:=Lib.hid hd
 have DEP:=Lib.hid fun w=>dep_any (x:=x) (dv:=.slice da x.data.length dc) (sv:=.slice sa x.set.length sc) w hok.dep.1 hok.dep.2 hok.wt.1 hok.wt.2
 have G0:=Lib.hid (Gr.start w #[.int .i64 3,.int .i64 x.fl,.int .u32 x.st,.int .i64 x.ln,.slice da x.data.length dc,.int .u32 x.pr,.int .u32 x.la,.int .u32 x.co,.int .u32 x.inc,.bool x.hp,.bool x.ex,.int .u32 x.dep,.int .i64 x.wt,.slice sa x.set.length sc])
 unfold frX frameC at DEP ⊢
 rw [ht] at DEP ⊢
 have hf0:0≤x.fl:=by omega
 have hf1:x.fl<256:=by omega
 clear hok hd eW hfl hs hN hfa
 go_enter Tryz.func17,Tryz.ntmps17
 go_wp2_with (first
   | (go_at_call 33;refine (bytes4 x.co _ HOK.out.co.1 HOK.out.co.2).mono ?_;intro e v1 hr1;obtain ⟨ra1,rc1,rfl,b1,o1,f1⟩:=retB_n (be32_n x.co) hr1;have GZ:=Lib.hid (G0.out.ret b1 o1 f1 (be32_n x.co));have c0:=blk_cell GZ.out.F 0;have c2:=blk_cell GZ.out.F 2)
   | (go_at_call 35;refine (headerBytesS_any _ 3 x.fl x.st _ (by omega) (by omega) (by omega) (by omega) (by omega) (by omega) HOK.out.st.1 (by have:=HOK.out.st;omega)).mono ?_;intro e vh hrh;obtain ⟨rah,rch,rfl,bh,oh,fh⟩:=retB_n (n:=9) rfl hrh;have Gh:=Lib.hid (GZ.out.below bh);have fh':=fh.mono GZ.out.B.size)
   | (at_builtin;refine wpList_app E5 rfl _ _ rfl (.slice rah 9 rch) 9 _ rfl oh (4) (bv (be32 x.co)) (src_of_row Tryz.underlying22 Gh.out.own (bv_one _)) (by omega) (by unfold maxLen;omega) ?_;intro a' c' w' o' g' t'))
 go_ret
 refine ⟨.slice a' (9+(4)) c',rfl,Below.app Gh.out.B Gh.out.B.size g' fh',?_,Fresh.app fh' Gh.out.B.size t'⟩
 rw [←HLL.out]
 rw [List.length_append,show (hdrS (4) 3 x.fl x.st).length=9 from rfl,Gh.out.len,bv_append]
 exact o'
theorem byt_8 {w:World} {x:Fr} {dv sv pv:Value} {pad:List Int} {pd:Bool} (hok:Pl.Legal x pad pd) (hd:RdB w dv x.data) (hs:RdP w sv x.set) (ht:x.ty=8) :
   Calls Tryz.prog 17 #[.agg (frX x dv sv),pv,.bool pd] w (RetB w (Pl.wBytes x pad pd)):=by
 obtain ⟨sa,sc,rfl,-,-⟩:=id hs
 obtain ⟨da,dc,rfl,-,-⟩:=id hd
 have hdl:=hok.dl
 have hfl:=hok.fl
 unfold Pl.flOk at hfl
 simp [ht] at hfl
 have hfa:x.fl=0:=by omega
 have eW:Pl.wBytes x pad pd=hdrS ((be32 x.inc:List Int).length:Nat) 8 x.fl x.st++(be32 x.inc):=by
   unfold Pl.wBytes Pl.wPay Pl.wFl hdrS Pl.wHd
   simp [ht,be32_w]
 have hN:((be32 x.inc:List Int).length:Int)=4:=by
   simp [wDep_n,be32_n]<;>omega
 rw [hN] at eW
 rw [eW]
 obtain ⟨LL,hLL⟩:∃q:List Int,(be32 x.inc:List Int)=q:=⟨_,rfl⟩
 rw [hLL]
 have HLL:=Lib.hid hLL
 clear hLL
 have HOK:=Lib.hid hok
 have HD:=Lib.hid hd
 have DEP:=Lib.hid fun w=>dep_any (x:=x) (dv:=.slice da x.data.length dc) (sv:=.slice sa x.set.length sc) w hok.dep.1 hok.dep.2 hok.wt.1 hok.wt.2
 have G0:=Lib.hid (Gr.start w #[.int .i64 8,.int .i64 x.fl,.int .u32 x.st,.int .i64 x.ln,.slice da x.data.length dc,.int .u32 x.pr,.int .u32 x.la,.int .u32 x.co,.int .u32 x.inc,.bool x.hp,.bool x.ex,.int .u32 x.dep,.int .i64 x.wt,.slice sa x.set.length sc])
 unfold frX frameC at DEP ⊢
 rw [ht] at DEP ⊢
 have hf0:0≤x.fl:=by omega
 have hf1:x.fl<256:=by omega
 clear hok hd eW hfl hs hN hfa
 go_enter Tryz.func17,Tryz.ntmps17
 go_wp2_with (first
   | (go_at_call 33;refine (bytes4 x.inc _ HOK.out.ic.1 HOK.out.ic.2).mono ?_;intro e v1 hr1;obtain ⟨ra1,rc1,rfl,b1,o1,f1⟩:=retB_n (be32_n x.inc) hr1;have GZ:=Lib.hid (G0.out.ret b1 o1 f1 (be32_n x.inc));have c0:=blk_cell GZ.out.F 0;have c2:=blk_cell GZ.out.F 2)
   | (go_at_call 35;refine (headerBytesS_any _ 8 x.fl x.st _ (by omega) (by omega) (by omega) (by omega) (by omega) (by omega) HOK.out.st.1 (by have:=HOK.out.st;omega)).mono ?_;intro e vh hrh;obtain ⟨rah,rch,rfl,bh,oh,fh⟩:=retB_n (n:=9) rfl hrh;have Gh:=Lib.hid (GZ.out.below bh);have fh':=fh.mono GZ.out.B.size)
   | (at_builtin;refine wpList_app E5 rfl _ _ rfl (.slice rah 9 rch) 9 _ rfl oh (4) (bv (be32 x.inc)) (src_of_row Tryz.underlying22 Gh.out.own (bv_one _)) (by omega) (by unfold maxLen;omega) ?_;intro a' c' w' o' g' t'))
 go_ret
 refine ⟨.slice a' (9+(4)) c',rfl,Below.app Gh.out.B Gh.out.B.size g' fh',?_,Fresh.app fh' Gh.out.B.size t'⟩
 rw [←HLL.out]
 rw [List.length_append,show (hdrS (4) 8 x.fl x.st).length=9 from rfl,Gh.out.len,bv_append]
 exact o'
theorem byt_2 {w:World} {x:Fr} {dv sv pv:Value} {pad:List Int} {pd:Bool} (hok:Pl.Legal x pad pd) (hd:RdB w dv x.data) (hs:RdP w sv x.set) (ht:x.ty=2) :
   Calls Tryz.prog 17 #[.agg (frX x dv sv),pv,.bool pd] w (RetB w (Pl.wBytes x pad pd)):=by
 obtain ⟨sa,sc,rfl,-,-⟩:=id hs
 obtain ⟨da,dc,rfl,-,-⟩:=id hd
 have hdl:=hok.dl
 have hfl:=hok.fl
 unfold Pl.flOk at hfl
 simp [ht] at hfl
 have hfa:x.fl=0:=by omega
 have eW:Pl.wBytes x pad pd=hdrS ((Pl.wDep x:List Int).length:Nat) 2 x.fl x.st++(Pl.wDep x):=by
   unfold Pl.wBytes Pl.wPay Pl.wFl hdrS Pl.wHd
   simp [ht,be32_w]
 have hN:((Pl.wDep x:List Int).length:Int)=5:=by
   simp [wDep_n,be32_n]<;>omega
 rw [hN] at eW
 rw [eW]
 obtain ⟨LL,hLL⟩:∃q:List Int,(Pl.wDep x:List Int)=q:=⟨_,rfl⟩
 rw [hLL]
 have HLL:=Lib.hid hLL
 clear hLL
 have HOK:=Lib.hid hok
 have HD:=Lib.hid hd
 have DEP:=Lib.hid fun w=>dep_any (x:=x) (dv:=.slice da x.data.length dc) (sv:=.slice sa x.set.length sc) w hok.dep.1 hok.dep.2 hok.wt.1 hok.wt.2
 have G0:=Lib.hid (Gr.start w #[.int .i64 2,.int .i64 x.fl,.int .u32 x.st,.int .i64 x.ln,.slice da x.data.length dc,.int .u32 x.pr,.int .u32 x.la,.int .u32 x.co,.int .u32 x.inc,.bool x.hp,.bool x.ex,.int .u32 x.dep,.int .i64 x.wt,.slice sa x.set.length sc])
 unfold frX frameC at DEP ⊢
 rw [ht] at DEP ⊢
 have hf0:0≤x.fl:=by omega
 have hf1:x.fl<256:=by omega
 clear hok hd eW hfl hs hN hfa
 go_enter Tryz.func17,Tryz.ntmps17
 go_wp2_with (first
   | (refine wpList_load_blk rfl 29 _ rfl w.heap.size rfl #[.int .i64 2,.int .i64 x.fl,.int .u32 x.st,.int .i64 x.ln,.slice da x.data.length dc,.int .u32 x.pr,.int .u32 x.la,.int .u32 x.co,.int .u32 x.inc,.bool x.hp,.bool x.ex,.int .u32 x.dep,.int .i64 x.wt,.slice sa x.set.length sc] 29 G0.out.F Tryz.underlying29 infoFs ?_)
   | (go_at_call 34;refine (DEP.out _).mono ?_;intro e v1 hr1;obtain ⟨ra1,rc1,rfl,b1,o1,f1⟩:=retB_n (wDep_n x) hr1;have GZ:=Lib.hid (G0.out.ret b1 o1 f1 (wDep_n x));have c0:=blk_cell GZ.out.F 0;have c2:=blk_cell GZ.out.F 2)
   | (go_at_call 35;refine (headerBytesS_any _ 2 x.fl x.st _ (by omega) (by omega) (by omega) (by omega) (by omega) (by omega) HOK.out.st.1 (by have:=HOK.out.st;omega)).mono ?_;intro e vh hrh;obtain ⟨rah,rch,rfl,bh,oh,fh⟩:=retB_n (n:=9) rfl hrh;have Gh:=Lib.hid (GZ.out.below bh);have fh':=fh.mono GZ.out.B.size)
   | (at_builtin;refine wpList_app E5 rfl _ _ rfl (.slice rah 9 rch) 9 _ rfl oh (5) (bv (Pl.wDep x)) (src_of_row Tryz.underlying22 Gh.out.own (bv_one _)) (by omega) (by unfold maxLen;omega) ?_;intro a' c' w' o' g' t'))
 go_ret
 refine ⟨.slice a' (9+(5)) c',rfl,Below.app Gh.out.B Gh.out.B.size g' fh',?_,Fresh.app fh' Gh.out.B.size t'⟩
 rw [←HLL.out]
 rw [List.length_append,show (hdrS (5) 2 x.fl x.st).length=9 from rfl,Gh.out.len,bv_append]
 exact o'
theorem byt_7 {w:World} {x:Fr} {dv sv pv:Value} {pad:List Int} {pd:Bool} (hok:Pl.Legal x pad pd) (hd:RdB w dv x.data) (hs:RdP w sv x.set) (ht:x.ty=7) :
   Calls Tryz.prog 17 #[.agg (frX x dv sv),pv,.bool pd] w (RetB w (Pl.wBytes x pad pd)):=by
 obtain ⟨sa,sc,rfl,-,-⟩:=id hs
 obtain ⟨da,dc,rfl,-,-⟩:=id hd
 have hdl:=hok.dl
 have hfl:=hok.fl
 unfold Pl.flOk at hfl
 simp [ht] at hfl
 have hfa:x.fl=0:=by omega
 have eW:Pl.wBytes x pad pd=hdrS ((be32 x.la++be32 x.co++x.data:List Int).length:Nat) 7 x.fl x.st++(be32 x.la++be32 x.co++x.data):=by
   unfold Pl.wBytes Pl.wPay Pl.wFl hdrS Pl.wHd
   simp [ht,be32_w]
 have hN:((be32 x.la++be32 x.co++x.data:List Int).length:Int)=8+(x.data.length:Int):=by
   simp [wDep_n,be32_n]<;>omega
 rw [hN] at eW
 rw [eW]
 obtain ⟨LL,hLL⟩:∃q:List Int,(be32 x.la++be32 x.co++x.data:List Int)=q:=⟨_,rfl⟩
 rw [hLL]
 have HLL:=Lib.hid hLL
 clear hLL
 have HOK:=Lib.hid hok
 have HD:=Lib.hid hd
 have DEP:=Lib.hid fun w=>dep_any (x:=x) (dv:=.slice da x.data.length dc) (sv:=.slice sa x.set.length sc) w hok.dep.1 hok.dep.2 hok.wt.1 hok.wt.2
 have G0:=Lib.hid (Gr.start w #[.int .i64 7,.int .i64 x.fl,.int .u32 x.st,.int .i64 x.ln,.slice da x.data.length dc,.int .u32 x.pr,.int .u32 x.la,.int .u32 x.co,.int .u32 x.inc,.bool x.hp,.bool x.ex,.int .u32 x.dep,.int .i64 x.wt,.slice sa x.set.length sc])
 unfold frX frameC at DEP ⊢
 rw [ht] at DEP ⊢
 have hf0:0≤x.fl:=by omega
 have hf1:x.fl<256:=by omega
 clear hok hd eW hfl hs hN hfa
 go_enter Tryz.func17,Tryz.ntmps17
 go_upto_region 30 with fail
 refine wp_region_held_drew (S:=fun w'=>w'.heap[w.heap.size]? = some (.cells #[.int .i64 7,.int .i64 x.fl,.int .u32 x.st,.int .i64 x.ln,.slice da x.data.length dc,.int .u32 x.pr,.int .u32 x.la,.int .u32 x.co,.int .u32 x.inc,.bool x.hp,.bool x.ex,.int .u32 x.dep,.int .i64 x.wt,.slice sa x.set.length sc] 29 (0,0))) (by kernel_rfl) G0.out.drew.F (fun hHeld => ?_)
 refine tkS 0 (.pointer (some ⟨w.heap.size,6,none⟩)) ?_;try simp only [Act.put,sxA,sxB,sxC,sxD,sxE,sxF]
 refine tkL 1 (.int .u32 x.la) ?_ ?_
 · intro w' hSw;have hc:w'.cell? ⟨w.heap.size,6,none⟩=some (.int .u32 x.la):=blk_cell hSw 6;clear hSw;go_simp
 try simp only [Act.put,sxA,sxB,sxC,sxD,sxE,sxF]
 refine tkS 3 (.pointer (some ⟨w.heap.size,7,none⟩)) ?_;try simp only [Act.put,sxA,sxB,sxC,sxD,sxE,sxF]
 refine tkL 4 (.int .u32 x.co) ?_ ?_
 · intro w' hSw;have hc:w'.cell? ⟨w.heap.size,7,none⟩=some (.int .u32 x.co):=blk_cell hSw 7;clear hSw;go_simp
 try simp only [Act.put,sxA,sxB,sxC,sxD,sxE,sxF]
 refine tkS 7 (.pointer (some ⟨w.heap.size,4,none⟩)) ?_;try simp only [Act.put,sxA,sxB,sxC,sxD,sxE,sxF]
 refine tkL 8 (.slice da x.data.length dc) ?_ ?_
 · intro w' hSw;have hc:w'.cell? ⟨w.heap.size,4,none⟩=some (.slice da x.data.length dc):=blk_cell hSw 4;clear hSw;go_simp
 try simp only [Act.put,sxA,sxB,sxC,sxD,sxE,sxF]
 refine wpAnyH_ready (rs:=[2]) (by kernel_rfl) (by simp) ?_
 refine AllReadyH.cons rfl (fun K' hK => ?_) AllReadyH.nil
 go_simp
 refine (bytes4 x.la _ HOK.out.la.1 (by have:=HOK.out.la;omega)).mono ?_
 intro e v1 hr1
 obtain ⟨ra1,rc1,rfl,b1,o1,f1⟩:=retB_n (be32_n x.la) hr1
 have G1:=Lib.hid (G0.out.drew.ret b1 o1 f1 (be32_n x.la))
 go_wp2_with fail
 refine hK.out _ _ G1.out.F (fun hH1 => ?_)
 clear hK K'
 try simp only [Act.put,sxA,sxB,sxC,sxD,sxE,sxF]
 refine wpAnyH_ready (rs:=[5]) (by kernel_rfl) (by simp) ?_
 refine AllReadyH.cons rfl (fun K' hK => ?_) AllReadyH.nil
 go_simp
 refine (bytes4 x.co _ HOK.out.co.1 HOK.out.co.2).mono ?_
 intro e v2 hr2
 obtain ⟨ra2,rc2,rfl,b2,o2,f2⟩:=retB_n (be32_n x.co) hr2
 have G2:=Lib.hid (G1.out.below b2)
 go_wp2_with fail
 refine hK.out _ _ G2.out.F (fun hH2 => ?_)
 clear hK K'
 try simp only [Act.put,sxA,sxB,sxC,sxD,sxE,sxF]
 refine wpAnyH_ready (rs:=[6]) (by kernel_rfl) (by simp) ?_
 refine AllReadyH.cons rfl (fun K' hK => ?_) AllReadyH.nil
 refine step_app E5 rfl _ _ rfl (.slice ra1 4 rc1) 4 (bv (be32 x.la)) rfl G2.out.own 4 (bv (be32 x.co)) (src_of_row Tryz.underlying22 o2 (bv_one _)) (by omega) (by unfold maxLen;omega) ?_
 intro a3 c3 w3 o3 g3 t3
 have G3:=Lib.hid (G2.out.app (k:=be32 x.co) rfl o3 g3 t3)
 refine hK.out _ _ G3.out.F (fun hH3 => ?_)
 clear hK K'
 try simp only [Act.put,sxA,sxB,sxC,sxD,sxE,sxF]
 refine wpAnyH_ready (rs:=[9]) (by kernel_rfl) (by simp) ?_
 refine AllReadyH.cons rfl (fun K' hK => ?_) AllReadyH.nil
 refine step_app E5 rfl _ _ rfl (.slice a3 8 c3) 8 (bv (be32 x.la++be32 x.co)) rfl G3.out.own x.data.length (bv x.data) (src_of_rd (HD.out.below G3.out.B)) (by omega) (by unfold maxLen;omega) ?_
 intro a4 c4 w4 o4 g4 t4
 have GZ:=Lib.hid (G3.out.app (k:=x.data) rfl o4 g4 t4)
 have c0:=blk_cell GZ.out.F 0
 have c2:=blk_cell GZ.out.F 2
 refine hK.out _ _ GZ.out.F (fun hH4 => ?_)
 clear hK K'
 try simp only [Act.put,sxA,sxB,sxC,sxD,sxE,sxF]
 refine tkS 10 (.slice a4 (8+x.data.length) c4) ?_;try simp only [Act.put,sxA,sxB,sxC,sxD,sxE,sxF]
 refine wpAnyH_done (by kernel_rfl) ?_ _
 go_wp2_with (first
   | (go_at_call 35;refine (headerBytesS_any _ 7 x.fl x.st _ (by omega) (by omega) (by omega) (by omega) (by omega) (by omega) HOK.out.st.1 (by have:=HOK.out.st;omega)).mono ?_;intro e vh hrh;obtain ⟨rah,rch,rfl,bh,oh,fh⟩:=retB_n (n:=9) rfl hrh;have Gh:=Lib.hid (GZ.out.below bh);have fh':=fh.mono GZ.out.B.size)
   | (at_builtin;refine wpList_app E5 rfl _ _ rfl (.slice rah 9 rch) 9 _ rfl oh (8+x.data.length) (bv (be32 x.la++be32 x.co++x.data)) (src_of_row Tryz.underlying22 Gh.out.own (bv_one _)) (by omega) (by unfold maxLen;omega) ?_;intro a' c' w' o' g' t'))
 go_ret
 refine ⟨.slice a' (9+(8+x.data.length)) c',rfl,Below.app Gh.out.B Gh.out.B.size g' fh',?_,Fresh.app fh' Gh.out.B.size t'⟩
 rw [←HLL.out]
 rw [List.length_append,show (hdrS (8+(x.data.length:Int)) 7 x.fl x.st).length=9 from rfl,Gh.out.len,bv_append]
 exact o'
theorem byt_16 {w:World} {x:Fr} {dv sv pv:Value} {pad:List Int} {pd:Bool} (hok:Pl.Legal x pad pd) (hd:RdB w dv x.data) (hs:RdP w sv x.set) (ht:x.ty=16) :
   Calls Tryz.prog 17 #[.agg (frX x dv sv),pv,.bool pd] w (RetB w (Pl.wBytes x pad pd)):=by
 obtain ⟨sa,sc,rfl,-,-⟩:=id hs
 obtain ⟨da,dc,rfl,-,-⟩:=id hd
 have hdl:=hok.dl
 have hfl:=hok.fl
 unfold Pl.flOk at hfl
 simp [ht] at hfl
 have hfa:x.fl=0:=by omega
 have eW:Pl.wBytes x pad pd=hdrS ((be32 x.pr++x.data:List Int).length:Nat) 16 x.fl x.st++(be32 x.pr++x.data):=by
   unfold Pl.wBytes Pl.wPay Pl.wFl hdrS Pl.wHd
   simp [ht,be32_w]
 have hN:((be32 x.pr++x.data:List Int).length:Int)=4+(x.data.length:Int):=by
   simp [wDep_n,be32_n]<;>omega
 rw [hN] at eW
 rw [eW]
 obtain ⟨LL,hLL⟩:∃q:List Int,(be32 x.pr++x.data:List Int)=q:=⟨_,rfl⟩
 rw [hLL]
 have HLL:=Lib.hid hLL
 clear hLL
 have HOK:=Lib.hid hok
 have HD:=Lib.hid hd
 have DEP:=Lib.hid fun w=>dep_any (x:=x) (dv:=.slice da x.data.length dc) (sv:=.slice sa x.set.length sc) w hok.dep.1 hok.dep.2 hok.wt.1 hok.wt.2
 have G0:=Lib.hid (Gr.start w #[.int .i64 16,.int .i64 x.fl,.int .u32 x.st,.int .i64 x.ln,.slice da x.data.length dc,.int .u32 x.pr,.int .u32 x.la,.int .u32 x.co,.int .u32 x.inc,.bool x.hp,.bool x.ex,.int .u32 x.dep,.int .i64 x.wt,.slice sa x.set.length sc])
 unfold frX frameC at DEP ⊢
 rw [ht] at DEP ⊢
 have hf0:0≤x.fl:=by omega
 have hf1:x.fl<256:=by omega
 clear hok hd eW hfl hs hN hfa
 go_enter Tryz.func17,Tryz.ntmps17
 go_upto_region 34 with fail
 refine wp_region_held_drew (S:=fun w'=>w'.heap[w.heap.size]? = some (.cells #[.int .i64 16,.int .i64 x.fl,.int .u32 x.st,.int .i64 x.ln,.slice da x.data.length dc,.int .u32 x.pr,.int .u32 x.la,.int .u32 x.co,.int .u32 x.inc,.bool x.hp,.bool x.ex,.int .u32 x.dep,.int .i64 x.wt,.slice sa x.set.length sc] 29 (0,0))) (by kernel_rfl) G0.out.drew.F (fun hHeld => ?_)
 refine tkS 0 (.pointer (some ⟨w.heap.size,5,none⟩)) ?_;try simp only [Act.put,sxA,sxB,sxC,sxD,sxE,sxF]
 refine tkL 1 (.int .u32 x.pr) ?_ ?_
 · intro w' hSw;have hc:w'.cell? ⟨w.heap.size,5,none⟩=some (.int .u32 x.pr):=blk_cell hSw 5;clear hSw;go_simp
 try simp only [Act.put,sxA,sxB,sxC,sxD,sxE,sxF]
 refine tkS 3 (.pointer (some ⟨w.heap.size,4,none⟩)) ?_;try simp only [Act.put,sxA,sxB,sxC,sxD,sxE,sxF]
 refine tkL 4 (.slice da x.data.length dc) ?_ ?_
 · intro w' hSw;have hc:w'.cell? ⟨w.heap.size,4,none⟩=some (.slice da x.data.length dc):=blk_cell hSw 4;clear hSw;go_simp
 try simp only [Act.put,sxA,sxB,sxC,sxD,sxE,sxF]
 refine wpAnyH_ready (rs:=[2]) (by kernel_rfl) (by simp) ?_
 refine AllReadyH.cons rfl (fun K' hK => ?_) AllReadyH.nil
 go_simp
 refine (bytes4 x.pr _ HOK.out.pr.1 (by have:=HOK.out.pr;omega)).mono ?_
 intro e v1 hr1
 obtain ⟨ra1,rc1,rfl,b1,o1,f1⟩:=retB_n (be32_n x.pr) hr1
 have G1:=Lib.hid (G0.out.drew.ret b1 o1 f1 (be32_n x.pr))
 go_wp2_with fail
 refine hK.out _ _ G1.out.F (fun hH1 => ?_)
 clear hK K'
 try simp only [Act.put,sxA,sxB,sxC,sxD,sxE,sxF]
 refine wpAnyH_ready (rs:=[5]) (by kernel_rfl) (by simp) ?_
 refine AllReadyH.cons rfl (fun K' hK => ?_) AllReadyH.nil
 refine step_app E5 rfl _ _ rfl (.slice ra1 4 rc1) 4 (bv (be32 x.pr)) rfl G1.out.own x.data.length (bv x.data) (src_of_rd (HD.out.below G1.out.B)) (by omega) (by unfold maxLen;omega) ?_
 intro a4 c4 w4 o4 g4 t4
 have GZ:=Lib.hid (G1.out.app (k:=x.data) rfl o4 g4 t4)
 have c0:=blk_cell GZ.out.F 0
 have c2:=blk_cell GZ.out.F 2
 refine hK.out _ _ GZ.out.F (fun hH4 => ?_)
 clear hK K'
 try simp only [Act.put,sxA,sxB,sxC,sxD,sxE,sxF]
 refine tkS 6 (.slice a4 (4+x.data.length) c4) ?_;try simp only [Act.put,sxA,sxB,sxC,sxD,sxE,sxF]
 refine wpAnyH_done (by kernel_rfl) ?_ _
 go_wp2_with (first
   | (go_at_call 35;refine (headerBytesS_any _ 16 x.fl x.st _ (by omega) (by omega) (by omega) (by omega) (by omega) (by omega) HOK.out.st.1 (by have:=HOK.out.st;omega)).mono ?_;intro e vh hrh;obtain ⟨rah,rch,rfl,bh,oh,fh⟩:=retB_n (n:=9) rfl hrh;have Gh:=Lib.hid (GZ.out.below bh);have fh':=fh.mono GZ.out.B.size)
   | (at_builtin;refine wpList_app E5 rfl _ _ rfl (.slice rah 9 rch) 9 _ rfl oh (4+x.data.length) (bv (be32 x.pr++x.data)) (src_of_row Tryz.underlying22 Gh.out.own (bv_one _)) (by omega) (by unfold maxLen;omega) ?_;intro a' c' w' o' g' t'))
 go_ret
 refine ⟨.slice a' (9+(4+x.data.length)) c',rfl,Below.app Gh.out.B Gh.out.B.size g' fh',?_,Fresh.app fh' Gh.out.B.size t'⟩
 rw [←HLL.out]
 rw [List.length_append,show (hdrS (4+(x.data.length:Int)) 16 x.fl x.st).length=9 from rfl,Gh.out.len,bv_append]
 exact o'
theorem byt_o {w:World} {x:Fr} {dv sv pv:Value} {pad:List Int} {pd:Bool} (hok:Pl.Legal x pad pd) (hd:RdB w dv x.data) (ht:x.ty=6∨x.ty=9∨(10≤x.ty∧x.ty≠16)) :
   Calls Tryz.prog 17 #[.agg (frX x dv sv),pv,.bool pd] w (RetB w (Pl.wBytes x pad pd)):=by
 obtain ⟨da,dc,rfl,-,-⟩:=id hd
 have hdl:=hok.dl
 have hty:=hok.ty
 have hst:=hok.st
 have hfl:0≤x.fl∧x.fl<256:=by
   have h:=hok.fl
   unfold Pl.flOk at h
   rw [if_neg (by omega),if_neg (by omega)] at h
   split at h
   · omega
   split at h
   · omega
   split at h
   · omega
   · exact h
 obtain ⟨hf0,hf1⟩:=hfl
 have eW:Pl.wBytes x pad pd=hdrS x.data.length x.ty x.fl x.st++x.data:=by
   unfold Pl.wBytes Pl.wPay Pl.wFl hdrS Pl.wHd
   rw [if_neg (by omega),if_neg (by omega),if_neg (by omega),if_neg (by omega),if_neg (by omega),if_neg (by omega),if_neg (by omega),if_neg (by omega)]
   rfl
 rw [eW]
 have t0:(x.ty==0)=false:=beq_false_of_ne (by omega)
 have t1:(x.ty==1)=false:=beq_false_of_ne (by omega)
 have t2:(x.ty==2)=false:=beq_false_of_ne (by omega)
 have t3:(x.ty==3)=false:=beq_false_of_ne (by omega)
 have t4:(x.ty==4)=false:=beq_false_of_ne (by omega)
 have t5:(x.ty==5)=false:=beq_false_of_ne (by omega)
 have t7:(x.ty==7)=false:=beq_false_of_ne (by omega)
 have t8:(x.ty==8)=false:=beq_false_of_ne (by omega)
 have t16:(x.ty==16)=false:=beq_false_of_ne (by omega)
 have hB0:Below w.heap.size w (w.alloc (.cells (frX x (.slice da x.data.length dc) sv) 29)):=((Kept.refl (· < w.heap.size) w).alloc _).below (Nat.le_refl _)
 have hd0:=hd.below hB0
 have hh:=headerBytesS_any x.data.length x.ty x.fl x.st (w.alloc (.cells (frX x (.slice da x.data.length dc) sv) 29)) (by omega) (by omega) hty.1 hty.2 hf0 hf1 hst.1 (by omega)
 have hl9:(hdrS x.data.length x.ty x.fl x.st).length=9:=rfl
 unfold frX frameC at hh hd0 hB0 ⊢
 generalize hdrS x.data.length x.ty x.fl x.st=H at *
 have H9:=Lib.hid hl9
 have HD:=Lib.hid hd0
 clear hl9 hd0 hd hok eW ht
 go_enter Tryz.func17,Tryz.ntmps17
 go_wp2_with (first
   | (go_at_call 35;refine hh.mono ?_;rintro e w1 ⟨r,rfl,b1,o1,f1⟩;obtain ⟨ra,rc,rfl,-,-⟩:=own_shape o1)
   | (at_builtin;refine wpList_app E5 rfl _ _ rfl (.slice ra H.length rc) H.length _ rfl o1 x.data.length _ (src_of_rd (HD.out.below b1)) (by have:=H9.out;omega) (by have:=H9.out;unfold maxLen;omega) ?_;intro a' c' w2 o2 g2 t2))
 go_ret
 have s1:=b1.size
 have f0:Fresh w.heap.size (.slice ra H.length rc):=f1.mono (by simp)
 refine ⟨.slice a' (H++x.data).length c',by (rw [List.length_append];rfl),?_,by rw [List.length_append,bv_append];exact o2,?_⟩
 · exact Below.app (Below.then hB0 (Nat.le_refl _) b1) (by simp at s1;omega) g2 f0
 · rw [List.length_append];exact f0.app (by simp at s1;omega) t2
end Go.Proofs.YtfdlbjibninakaaGreatDoor

namespace Go.Proofs.YtfdlbjibninakaaGreatDoor
open Go.RowKit
variable {w : World}
theorem set_bytes {x:Fr} {pad:List Int} {pd:Bool} (ht:x.ty=4):Pl.wBytes x pad pd=hdrS (Pl.wSet x.set).length 4 x.fl x.st++Pl.wSet x.set:=by
 unfold Pl.wBytes Pl.wPay Pl.wFl hdrS Pl.wHd
 simp [ht,be32_w]
theorem bytes_legal {x:Fr} {dv sv:Value} {pad:List Int} {pd:Bool} {pa:Option Addr} {pc:Nat} (hok:Pl.Legal x pad pd) (hd:RdB w dv x.data) (hs:RdP w sv x.set) (hp:RdB w (.slice pa pad.length pc) pad) :
   Calls Tryz.prog 17 #[.agg (frX x dv sv),.slice pa pad.length pc,.bool pd] w (RetB w (Pl.wBytes x pad pd)):=by
 by_cases h0:x.ty=0
 · cases pd with
   | false=>exact byt_0f hok hd hs hp h0
   | true=>exact byt_0t hok hd hs hp h0
 by_cases h1:x.ty=1
 · cases pd with
   | false=>cases hh:x.hp with
     | false=>exact byt_1ff hok hd hs hp h1 hh
     | true=>exact byt_1ft hok hd hs hp h1 hh
   | true=>cases hh:x.hp with
     | false=>exact byt_1tf hok hd hs hp h1 hh
     | true=>exact byt_1tt hok hd hs hp h1 hh
 by_cases h5:x.ty=5
 · cases pd with
   | false=>exact byt_5f hok hd hs hp h5
   | true=>exact byt_5t hok hd hs hp h5
 by_cases h2:x.ty=2
 · exact byt_2 hok hd hs h2
 by_cases h3:x.ty=3
 · exact byt_3 hok hd hs h3
 by_cases h4:x.ty=4
 · have htk:=hok.tk
   unfold Pl.tyOk at htk
   simp [h4] at htk
   have hfl:=hok.fl
   unfold Pl.flOk at hfl
   simp [h4] at hfl
   rw [set_bytes h4]
   exact bytes_set hs (by omega) h4 (by omega) (by omega) hok.st.1 (by have:=hok.st;omega) (fun p hp=>⟨(hok.set p hp).1,(hok.set p hp).2.1,(hok.set p hp).2.2.1,(hok.set p hp).2.2.2.1⟩)
 by_cases h7:x.ty=7
 · exact byt_7 hok hd hs h7
 by_cases h8:x.ty=8
 · exact byt_8 hok hd hs h8
 by_cases h16:x.ty=16
 · exact byt_16 hok hd hs h16
 · exact byt_o hok hd (by have:=hok.ty;omega)
end Go.Proofs.YtfdlbjibninakaaGreatDoor

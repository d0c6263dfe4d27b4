/- Reading: the framer's ReadFrameForHeader at an empty payload. -/
import Derived.Test.YtfdlbjibninakaaGreatDoorFg2
set_option linter.unusedVariables false
set_option linter.unusedSimpArgs false
namespace Go.Proofs.YtfdlbjibninakaaGreatDoor
set_option maxRecDepth 10000
set_option maxHeartbeats 8000000
open Go.RowKit
section
variable {B : Nat} {K : Nat → Prop} {aE aU aT : Addr} {w w' : World} {bF cl bR : Nat} {m o o' : Int} {L L' ps : List Int} {cs cs' : Array Value} {lf rb rest rest' pcs : Value} {at' at'' : Nat}
theorem ffh_empty (h:RSt B K aE aU aT w bF cl bR m o L ps cs lf rb rest pcs at') (ty fl st:Int) (hfl:0≤fl∧fl<256):Calls Tryz.prog 47 #[.pointer (some ⟨bF,0,none⟩),hdV ty fl 0 st] w (FEndR B K aE aU aT w bF cl bR m o L ps pcs (parse ⟨ty,fl,0,st⟩ [])):=by
 have hn:(0:Nat)≤16777215:=Nat.zero_le _
 rcases h.lfCases with rfl|⟨T,p,rfl,hT,hKp,pc,pt,pv,hp,hpv⟩
 · have h1:=h.below (w':=w.alloc (.cells #[.bool true,.int .u8 ty,.int .u8 fl,.int .u32 0,.int .u32 st] 113)) (((K0 _).alloc _).below (Nat.le_refl _))
   have bH:=blk_new w (.cells #[.bool true,.int .u8 ty,.int .u8 fl,.int .u32 0,.int .u32 st] 113)
   have k1:Kept K w (w.alloc (.cells #[.bool true,.int .u8 ty,.int .u8 fl,.int .u32 0,.int .u32 st] 113)):=(Kept.refl _ w).alloc _
   have c1:=(blk_cell h1.F 1).trans h1.fs.c1
   go_enter Tryz.func47,Tryz.ntmps47
   go_wp2
   clear c1
   generalize w.alloc (.cells #[.bool true,.int .u8 ty,.int .u8 fl,.int .u32 0,.int .u32 st] 113)=w1 at *
   have hlt:=lt_of_block bH
   have hK1:=h1.widen1 (q:=w.heap.size) hlt (lt_of_block h.F) (lt_of_block h.C) (lt_of_block h.R.R) (fun g n c e=>h.rbLt e) (fun T p e=>h.lfLt e)
   have c16:=(blk_cell h1.F 16).trans h1.fs.c16
   have ch3:w1.cell? ⟨w.heap.size,3,none⟩=some (.int .u32 0):=blk_cell bH 3
   have hgb:=getBuf_any hK1.drew 0 hn
   go_region_held3 (fun w'=>w'.cell? ⟨bF,16,none⟩=some (.func (.func 45) #[] #[.pointer (some ⟨cl,0,none⟩)])∧w'.cell? ⟨w.heap.size,3,none⟩=some (.int .u32 0)) (go_keep) (first|(go_at_call 45;refine hgb.mono ?_;rintro e w2 ⟨pl,rfl,k2,cs2,rb2,h2,hpl⟩;have c162:=(blk_cell h2.F 16).trans h2.fs.c16;have b2:=k2.at (show K w.heap.size∨w.heap.size=w.heap.size from .inr rfl) (show w1.drew.heap[w.heap.size]? = _ from bH);have ch32:w2.cell? ⟨w.heap.size,3,none⟩=some (.int .u32 0):=blk_cell b2 3))
   clear hgb c16 ch3 c162 ch32
   obtain ⟨pa,pc,rfl,hpc⟩:∃pa pc,pl = .slice pa 0 pc∧pc≤maxLen:=by
     rcases hpl with ⟨-,a,c,e,hc⟩|⟨g,n',cap,bc,e,-,-,-,-,hcap,-⟩
     · exact ⟨a,c,e,hc⟩
     · exact ⟨_,cap,e,by unfold maxLen;omega⟩
   have hrf:=readFull_none (.iface 69 (.pointer (some ⟨bR,0,none⟩))) w2 pa pc
   have c0:=(blk_cell h2.F 0).trans h2.fs.c0
   go_wp2_with (go_at_call 82;refine hrf.mono ?_;rintro e w3 ⟨rfl,rfl⟩)
   have b3:=b2
   have h3:=h2
   have hin3:∀J,inK J rest→inK J rest:=fun _ h=>h
   have kk3:=Kept.refl (fun k=>K k∨k=w.heap.size) w2
   have hend:=trivial
   have hg:=trivial
   have hrd:RdB w2.drew (.slice pa 0 pc) []:=⟨pa,pc,rfl,Nat.zero_le _,hpc,fun j x hj=>by simp at hj⟩
   obtain ⟨z0,z1,z2,z3,z4,-⟩:=five b3
   have c3:=(blk_cell h3.F 3).trans h3.fs.c3
   have c23:=(blk_cell h3.F 23).trans h3.fs.c23
   have k3:Kept K w w2:=(k1.trans (((Kept.refl _ w1).drew).trans (k2.mono fun k hk _ => .inl hk))).trans (kk3.mono fun k hk _ => .inl hk)
   have hps:=parse_any h3.drew.V ty fl 0 st hfl.1 hfl.2 pa 0 pc [] (w:=w2.drew) hrd (fun x hx=>by cases hx)
   have hpe:=parser_enter ty
   clear hrf hend c0 b2 k2 h2 hg h1 hK1 bH k1 hrd kk3
   go_region_held3 (fun w'=>w'.cell? ⟨w.heap.size,0,none⟩=some (.bool true)∧w'.cell? ⟨w.heap.size,1,none⟩=some (.int .u8 ty)∧w'.cell? ⟨w.heap.size,2,none⟩=some (.int .u8 fl)∧w'.cell? ⟨w.heap.size,3,none⟩=some (.int .u32 0)∧w'.cell? ⟨w.heap.size,4,none⟩=some (.int .u32 st)∧w'.cell? ⟨bF,3,none⟩=some cntV∧w'.cell? ⟨bF,23,none⟩=some (.pointer none)) (go_keep) (first
     | (go_at_call 83;refine (typeParser_any ty _).mono ?_;rintro e w' ⟨rfl,rfl⟩)
     | (refine hps.mono ?_;rintro e w4 ⟨fv,ev,rfl,hb4,hres⟩;have y0:=cell_below (w:=w2.drew) z0 hb4;have y1:=cell_below (w:=w2.drew) z1 hb4;have y2:=cell_below (w:=w2.drew) z2 hb4;have y3:=cell_below (w:=w2.drew) z3 hb4;have y4:=cell_below (w:=w2.drew) z4 hb4;have y5:=cell_below (w:=w2.drew) c3 hb4;have y6:=cell_below (w:=w2.drew) c23 hb4))
   all_goals
     clear hps hpe y0 y1 y2 y3 y4 y5 y6 z0 z1 z2 z3 z4 c3 c23
     have h4:=(h3.drew.below hb4).narrow (K:=K) (fun k hk => .inl hk) h.gl (hin3 (· < B) h.rk0) h.pk0
     have k4:Kept K w w4:=k3.trans ((Kept.undrew (Kept.all (K:=K) hb4)))
     have hA3:∀k,K k→k<w2.drew.heap.size:=fun k hk=>h3.lt k (.inl hk)
     have c1:=(blk_cell h4.F 1).trans h4.fs.c1
     have f1:=blk_free h4.F 1
     have h3F:bF<w2.drew.heap.size:=lt_of_block h3.F
     clear h3 hb4 hin3 b3 k3
     rcases hres with ⟨x,hr,rfl,hfv⟩|⟨f,c,s,hr,rfl,hev⟩
     · obtain ⟨T4,p4,rfl⟩:=hfv.isPtr
       have HR:=Lib.hid hr
       clear hr
       go_wp2
       go_ret2
       have hlf:=hfv.last (K:=K) hA3
       refine ⟨_,_,rfl,k4.setCell (fun hk=>absurd hk h.kF) _,⟨_,_,_,_,_,h4.setLf (hlf.kept ((Kept.refl (· ≠ bF) w4).setCell (fun hk=>absurd rfl hk) _) (fun T q e=>by cases e;have:=hfv.ge;have:=h3F;omega))⟩,.inl ⟨x,w2.drew.heap.size,HR.out,rfl,hfv.setF h4.F c1 h.lfNotInt⟩⟩
     · have HR:=Lib.hid hr
       clear hr
       rcases hev with ⟨rfl,rfl,rfl,rfl⟩|⟨rfl,rfl,rfl⟩|⟨rfl,rfl,t,rfl⟩|⟨rfl,rfl⟩
       · have hta:=ta_E (.pointer (some aU))
         go_wp2
         go_ret2
         exact ⟨_,_,rfl,k4.alloc _,⟨_,_,_,_,_,h4.below (((K0 _).alloc _).below (Nat.le_refl _))⟩,.inr ⟨_,_,_,HR.out,rfl,by simp [errV]⟩⟩
       · have hta:=ta_C (.int .u32 c)
         go_wp2
         go_ret2
         exact ⟨_,_,rfl,k4.alloc _,⟨_,_,_,_,_,h4.below (((K0 _).alloc _).below (Nat.le_refl _))⟩,.inr ⟨_,_,_,HR.out,rfl,by simp [errV]⟩⟩
       · have hta:=ta_R c t
         go_wp2_with (go_at_call 84;refine (connError_any (blk_alloc h4.F) h4.fs c t).mono ?_;rintro e w5 ⟨rfl,hf5⟩)
         go_ret2
         exact ⟨_,_,rfl,(k4.alloc _).trans (hf5.onK h.kF),⟨_,_,_,_,_,((h4.below (((K0 _).alloc _).below (Nat.le_refl _))).fend hf5 h4.o0).choose_spec⟩,.inr ⟨_,_,_,HR.out,rfl,by simp [errV]⟩⟩
       · have hta:=ta_S (.agg #[.int .u32 s,.int .u32 c,.nilIface])
         go_wp2
         go_ret2
         exact ⟨_,_,rfl,k4.alloc _,⟨_,_,_,_,_,h4.below (((K0 _).alloc _).below (Nat.le_refl _))⟩,.inr ⟨_,_,_,HR.out,rfl,by simp [errV]⟩⟩
 · have h1:=(h.below (w':=w.alloc (.cells #[.bool true,.int .u8 ty,.int .u8 fl,.int .u32 0,.int .u32 st] 113)) (((K0 _).alloc _).below (Nat.le_refl _))).inv
   have bH:=blk_set_other (blk_new w (.cells #[.bool true,.int .u8 ty,.int .u8 fl,.int .u32 0,.int .u32 st] 113)) (p:=⟨p,0,none⟩) (Ne.symm (Nat.ne_of_lt (lt_of_block hp))) (.bool false)
   have k1:Kept K w ((w.alloc (.cells #[.bool true,.int .u8 ty,.int .u8 fl,.int .u32 0,.int .u32 st] 113)).setCell ⟨p,0,none⟩ (.bool false)):=((Kept.refl _ w).alloc _).setCell (fun hk=>absurd hk hKp) _
   have c1:=(blk_cell (blk_alloc (p:=.cells #[.bool true,.int .u8 ty,.int .u8 fl,.int .u32 0,.int .u32 st] 113) h.F) 1).trans h.fs.c1
   have hinv:=inv_any hT ⟨p,0,none⟩
   have hcall:=invalidate_any (blk_alloc (p:=.cells #[.bool true,.int .u8 ty,.int .u8 fl,.int .u32 0,.int .u32 st] 113) hp) hpv
   go_enter Tryz.func47,Tryz.ntmps47
   go_wp2_with (go_at_call 152;refine hcall.mono ?_;rintro e w' ⟨rfl,rfl⟩)
   clear c1 hinv hcall hp hpv
   generalize (w.alloc (.cells #[.bool true,.int .u8 ty,.int .u8 fl,.int .u32 0,.int .u32 st] 113)).setCell ⟨p,0,none⟩ (.bool false)=w1 at *
   have hlt:=lt_of_block bH
   have hK1:=h1.widen1 (q:=w.heap.size) hlt (lt_of_block h.F) (lt_of_block h.C) (lt_of_block h.R.R) (fun g n c e=>h.rbLt e) (fun T p e=>h.lfLt e)
   have c16:=(blk_cell h1.F 16).trans h1.fs.c16
   have ch3:w1.cell? ⟨w.heap.size,3,none⟩=some (.int .u32 0):=blk_cell bH 3
   have hgb:=getBuf_any hK1.drew 0 hn
   go_region_held3 (fun w'=>w'.cell? ⟨bF,16,none⟩=some (.func (.func 45) #[] #[.pointer (some ⟨cl,0,none⟩)])∧w'.cell? ⟨w.heap.size,3,none⟩=some (.int .u32 0)) (go_keep) (first|(go_at_call 45;refine hgb.mono ?_;rintro e w2 ⟨pl,rfl,k2,cs2,rb2,h2,hpl⟩;have c162:=(blk_cell h2.F 16).trans h2.fs.c16;have b2:=k2.at (show K w.heap.size∨w.heap.size=w.heap.size from .inr rfl) (show w1.drew.heap[w.heap.size]? = _ from bH);have ch32:w2.cell? ⟨w.heap.size,3,none⟩=some (.int .u32 0):=blk_cell b2 3))
   clear hgb c16 ch3 c162 ch32
   obtain ⟨pa,pc,rfl,hpc⟩:∃pa pc,pl = .slice pa 0 pc∧pc≤maxLen:=by
     rcases hpl with ⟨-,a,c,e,hc⟩|⟨g,n',cap,bc,e,-,-,-,-,hcap,-⟩
     · exact ⟨a,c,e,hc⟩
     · exact ⟨_,cap,e,by unfold maxLen;omega⟩
   have hrf:=readFull_none (.iface 69 (.pointer (some ⟨bR,0,none⟩))) w2 pa pc
   have c0:=(blk_cell h2.F 0).trans h2.fs.c0
   go_wp2_with (go_at_call 82;refine hrf.mono ?_;rintro e w3 ⟨rfl,rfl⟩)
   have b3:=b2
   have h3:=h2
   have hin3:∀J,inK J rest→inK J rest:=fun _ h=>h
   have kk3:=Kept.refl (fun k=>K k∨k=w.heap.size) w2
   have hend:=trivial
   have hg:=trivial
   have hrd:RdB w2.drew (.slice pa 0 pc) []:=⟨pa,pc,rfl,Nat.zero_le _,hpc,fun j x hj=>by simp at hj⟩
   obtain ⟨z0,z1,z2,z3,z4,-⟩:=five b3
   have c3:=(blk_cell h3.F 3).trans h3.fs.c3
   have c23:=(blk_cell h3.F 23).trans h3.fs.c23
   have k3:Kept K w w2:=(k1.trans (((Kept.refl _ w1).drew).trans (k2.mono fun k hk _ => .inl hk))).trans (kk3.mono fun k hk _ => .inl hk)
   have hps:=parse_any h3.drew.V ty fl 0 st hfl.1 hfl.2 pa 0 pc [] (w:=w2.drew) hrd (fun x hx=>by cases hx)
   have hpe:=parser_enter ty
   clear hrf hend c0 b2 k2 h2 hg h1 hK1 bH k1 hrd kk3
   go_region_held3 (fun w'=>w'.cell? ⟨w.heap.size,0,none⟩=some (.bool true)∧w'.cell? ⟨w.heap.size,1,none⟩=some (.int .u8 ty)∧w'.cell? ⟨w.heap.size,2,none⟩=some (.int .u8 fl)∧w'.cell? ⟨w.heap.size,3,none⟩=some (.int .u32 0)∧w'.cell? ⟨w.heap.size,4,none⟩=some (.int .u32 st)∧w'.cell? ⟨bF,3,none⟩=some cntV∧w'.cell? ⟨bF,23,none⟩=some (.pointer none)) (go_keep) (first
     | (go_at_call 83;refine (typeParser_any ty _).mono ?_;rintro e w' ⟨rfl,rfl⟩)
     | (refine hps.mono ?_;rintro e w4 ⟨fv,ev,rfl,hb4,hres⟩;have y0:=cell_below (w:=w2.drew) z0 hb4;have y1:=cell_below (w:=w2.drew) z1 hb4;have y2:=cell_below (w:=w2.drew) z2 hb4;have y3:=cell_below (w:=w2.drew) z3 hb4;have y4:=cell_below (w:=w2.drew) z4 hb4;have y5:=cell_below (w:=w2.drew) c3 hb4;have y6:=cell_below (w:=w2.drew) c23 hb4))
   all_goals
     clear hps hpe y0 y1 y2 y3 y4 y5 y6 z0 z1 z2 z3 z4 c3 c23
     have h4:=(h3.drew.below hb4).narrow (K:=K) (fun k hk => .inl hk) h.gl (hin3 (· < B) h.rk0) h.pk0
     have k4:Kept K w w4:=k3.trans ((Kept.undrew (Kept.all (K:=K) hb4)))
     have hA3:∀k,K k→k<w2.drew.heap.size:=fun k hk=>h3.lt k (.inl hk)
     have c1:=(blk_cell h4.F 1).trans h4.fs.c1
     have f1:=blk_free h4.F 1
     have h3F:bF<w2.drew.heap.size:=lt_of_block h3.F
     clear h3 hb4 hin3 b3 k3
     rcases hres with ⟨x,hr,rfl,hfv⟩|⟨f,c,s,hr,rfl,hev⟩
     · obtain ⟨T4,p4,rfl⟩:=hfv.isPtr
       have HR:=Lib.hid hr
       clear hr
       go_wp2
       go_ret2
       have hlf:=hfv.last (K:=K) hA3
       refine ⟨_,_,rfl,k4.setCell (fun hk=>absurd hk h.kF) _,⟨_,_,_,_,_,h4.setLf (hlf.kept ((Kept.refl (· ≠ bF) w4).setCell (fun hk=>absurd rfl hk) _) (fun T q e=>by cases e;have:=hfv.ge;have:=h3F;omega))⟩,.inl ⟨x,w2.drew.heap.size,HR.out,rfl,hfv.setF h4.F c1 h.lfNotInt⟩⟩
     · have HR:=Lib.hid hr
       clear hr
       rcases hev with ⟨rfl,rfl,rfl,rfl⟩|⟨rfl,rfl,rfl⟩|⟨rfl,rfl,t,rfl⟩|⟨rfl,rfl⟩
       · have hta:=ta_E (.pointer (some aU))
         go_wp2
         go_ret2
         exact ⟨_,_,rfl,k4.alloc _,⟨_,_,_,_,_,h4.below (((K0 _).alloc _).below (Nat.le_refl _))⟩,.inr ⟨_,_,_,HR.out,rfl,by simp [errV]⟩⟩
       · have hta:=ta_C (.int .u32 c)
         go_wp2
         go_ret2
         exact ⟨_,_,rfl,k4.alloc _,⟨_,_,_,_,_,h4.below (((K0 _).alloc _).below (Nat.le_refl _))⟩,.inr ⟨_,_,_,HR.out,rfl,by simp [errV]⟩⟩
       · have hta:=ta_R c t
         go_wp2_with (go_at_call 84;refine (connError_any (blk_alloc h4.F) h4.fs c t).mono ?_;rintro e w5 ⟨rfl,hf5⟩)
         go_ret2
         exact ⟨_,_,rfl,(k4.alloc _).trans (hf5.onK h.kF),⟨_,_,_,_,_,((h4.below (((K0 _).alloc _).below (Nat.le_refl _))).fend hf5 h4.o0).choose_spec⟩,.inr ⟨_,_,_,HR.out,rfl,by simp [errV]⟩⟩
       · have hta:=ta_S (.agg #[.int .u32 s,.int .u32 c,.nilIface])
         go_wp2
         go_ret2
         exact ⟨_,_,rfl,k4.alloc _,⟨_,_,_,_,_,h4.below (((K0 _).alloc _).below (Nat.le_refl _))⟩,.inr ⟨_,_,_,HR.out,rfl,by simp [errV]⟩⟩
end
end Go.Proofs.YtfdlbjibninakaaGreatDoor

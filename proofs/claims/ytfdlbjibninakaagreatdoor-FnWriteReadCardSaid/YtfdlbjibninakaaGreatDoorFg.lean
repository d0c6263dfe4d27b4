/- Reading: the framer's ReadFrameForHeader. -/
import Derived.Test.YtfdlbjibninakaaGreatDoorFf
set_option linter.unusedVariables false
set_option linter.unusedSimpArgs false
namespace Go.Proofs.YtfdlbjibninakaaGreatDoor
set_option maxRecDepth 10000
set_option maxHeartbeats 8000000
open Go.RowKit
section
variable {B : Nat} {K : Nat → Prop} {aE aU aT : Addr} {w w' : World} {bF cl bR : Nat} {m o o' : Int} {L L' ps : List Int} {cs cs' : Array Value} {lf rb rest rest' pcs : Value} {at' at'' : Nat}
def PBad (aE aU aT:Addr) (K:Nat→Prop) (w:World) (f:Int) (e:Ending) (w':World):Prop:=e = .returned (.tuple #[.nilIface,errV aE aU aT f 0 0])∧Kept K w w'
theorem RSt.lfCases (h:RSt B K aE aU aT w bF cl bR m o L ps cs lf rb rest pcs at'):lf = .nilIface ∨ ∃T p,lf = .iface T (.pointer (some ⟨p,0,none⟩))∧FrT T ∧ ¬K p ∧ ∃c t v,w.heap[p]? = some (.cells c t (0,0))∧c[0]? = some (.bool v):=by
 rcases h.lf with h1|⟨T,p,c,t,v,e,h1,h2,h3,h4,h5⟩
 · exact .inl h1
 · exact .inr ⟨T,p,e,h1,h5,c,t,v,h2,h4⟩
theorem RSt.widen1 (h:RSt B K aE aU aT w bF cl bR m o L ps cs lf rb rest pcs at') {q:Nat} (hq:q<w.heap.size) (hF:bF<q) (hC:cl<q) (hR:bR<q) (hrb:∀g n c,rb = .slice (some ⟨g,0,none⟩) n c→g<q) (hlf:∀T p,lf = .iface T (.pointer (some ⟨p,0,none⟩))→p<q) :
   RSt B (fun k=>K k∨k=q) aE aU aT w bF cl bR m o L ps cs lf rb rest pcs at':=by
 refine ⟨h.V,h.F,h.fs,h.C,h.R,h.lim,h.bs,h.rk0,h.pk0,?_,?_,?_,?_,?_,?_,fun k hk => .inl (h.gl k hk),h.o0,h.m0,h.m1⟩
 · rcases h.rb with e|⟨g,n,cap,bc,e,h1,h2,h3,h4,h5⟩
   · exact .inl e
   · exact .inr ⟨g,n,cap,bc,e,h1,h2,h3,h4,fun hk=>hk.elim h5 (fun e'=>absurd (hrb g n cap e) (by omega))⟩
 · rcases h.lf with e|⟨T,p,c,t,v,e,h1,h2,h3,h4,h5⟩
   · exact .inl e
   · exact .inr ⟨T,p,c,t,v,e,h1,h2,h3,h4,fun hk=>hk.elim h5 (fun e'=>absurd (hlf T p e) (by omega))⟩
 · exact fun hk=>hk.elim h.kF (by omega)
 · exact fun hk=>hk.elim h.kC (by omega)
 · exact fun hk=>hk.elim h.kR (by omega)
 · exact fun k hk=>hk.elim (h.lt k) (fun e=>e▸hq)
theorem ffh_cut (h:RSt B K aE aU aT w bF cl bR m o L ps cs lf rb rest pcs at') (ty fl st:Int) (n:Nat) (hn:n≤16777215) (hL:L.length<n):Calls Tryz.prog 47 #[.pointer (some ⟨bF,0,none⟩),hdV ty fl (n:Int) st] w (PBad aE aU aT K w (cutF L)):=by
 rcases h.lfCases with rfl|⟨T,p,rfl,hT,hKp,pc,pt,pv,hp,hpv⟩
 · have h1:=h.below (w':=w.alloc (.cells #[.bool true,.int .u8 ty,.int .u8 fl,.int .u32 (n:Int),.int .u32 st] 113)) (((K0 _).alloc _).below (Nat.le_refl _))
   have bH:=blk_new w (.cells #[.bool true,.int .u8 ty,.int .u8 fl,.int .u32 (n:Int),.int .u32 st] 113)
   have k1:Kept K w (w.alloc (.cells #[.bool true,.int .u8 ty,.int .u8 fl,.int .u32 (n:Int),.int .u32 st] 113)):=(Kept.refl _ w).alloc _
   have c1:=(blk_cell h1.F 1).trans h1.fs.c1
   go_enter Tryz.func47,Tryz.ntmps47
   go_wp2
   clear c1
   generalize w.alloc (.cells #[.bool true,.int .u8 ty,.int .u8 fl,.int .u32 (n:Int),.int .u32 st] 113)=w1 at *
   have hlt:=lt_of_block bH
   have hK1:=h1.widen1 (q:=w.heap.size) hlt (lt_of_block h.F) (lt_of_block h.C) (lt_of_block h.R.R) (fun g n c e=>h.rbLt e) (fun T p e=>h.lfLt e)
   have c16:=(blk_cell h1.F 16).trans h1.fs.c16
   have ch3:w1.cell? ⟨w.heap.size,3,none⟩=some (.int .u32 (n:Int)):=blk_cell bH 3
   have hgb:=getBuf_any hK1.drew n hn
   go_region_held3 (fun w'=>w'.cell? ⟨bF,16,none⟩=some (.func (.func 45) #[] #[.pointer (some ⟨cl,0,none⟩)])∧w'.cell? ⟨w.heap.size,3,none⟩=some (.int .u32 (n:Int))) (go_keep) (first|(go_at_call 45;refine hgb.mono ?_;rintro e w2 ⟨pl,rfl,k2,cs2,rb2,h2,hpl⟩;have c162:=(blk_cell h2.F 16).trans h2.fs.c16;have b2:=k2.at (show K w.heap.size∨w.heap.size=w.heap.size from .inr rfl) (show w1.drew.heap[w.heap.size]? = _ from bH);have ch32:w2.cell? ⟨w.heap.size,3,none⟩=some (.int .u32 (n:Int)):=blk_cell b2 3))
   clear hgb c16 ch3 c162 ch32
   rcases hpl with ⟨h0,-⟩|⟨g,n',cap,bc,rfl,rfl,hg,hbc,hnc,hcap,hKg⟩
   · omega
   have hgR:=(h2.rbNe rfl).2.2
   have hBg:B≤g:=Nat.le_of_not_lt fun e=>hKg (h2.gl _ e)
   have hrf:=readFull_cut h2.V h2.R h2.lim hg (off:=0) (n:=n) (cap:=cap) (by omega) (by omega) hnc (by unfold maxLen;omega) hgR (h2.rkR hKg) (h2.pkR hKg) h2.BR hBg (by omega)
   have c0:=(blk_cell h2.F 0).trans h2.fs.c0
   go_wp2_with (go_at_call 82;refine hrf.mono ?_;rintro e w3 ⟨⟨ae,rfl,hae⟩,hend⟩)
   have b3:=hend.blkOf b2 (Nat.ne_of_gt (lt_of_block h.R.R)) (fun e=>hKg (.inr e.symm))
   obtain ⟨z0,z1,z2,z3,z4,-⟩:=five b3
   have k3:Kept K w w3:=(k1.trans (((Kept.refl _ w1).drew).trans (k2.mono fun k hk _ => .inl hk))).trans (hend.choose_spec.choose_spec.choose_spec.2.2.2.2.1.mono fun k hk _=>⟨fun e=>h.kR (e▸hk),fun e=>hKg (.inl (e▸hk))⟩)
   obtain ⟨bb,heq⟩:=eql_hd ty fl (n:Int) st
   clear hrf hend c0 b2 k2 h2 hg b3 h1 hK1 bH k1
   go_region_held3 (fun w'=>w'.cell? ⟨w.heap.size,0,none⟩=some (.bool true)∧w'.cell? ⟨w.heap.size,1,none⟩=some (.int .u8 ty)∧w'.cell? ⟨w.heap.size,2,none⟩=some (.int .u8 fl)∧w'.cell? ⟨w.heap.size,3,none⟩=some (.int .u32 (n:Int))∧w'.cell? ⟨w.heap.size,4,none⟩=some (.int .u32 st)) (go_keep) (first|(go_at_call 80;refine (invalid_any _).mono ?_;rintro e w' ⟨rfl,rfl⟩))
   all_goals
     clear z0 z1 z2 z3 z4 heq
     cases bb
     all_goals
       go_wp2
       go_ret2
       refine ⟨by rw [errV_cut ae hae];rfl,k3.trans ?_⟩
       repeat (first|(with_reducible exact Kept.refl _ _)|(with_reducible refine Kept.alloc ?_ _)|(with_reducible refine Kept.drawn ?_ _)|(with_reducible refine Kept.drew ?_))
 · have h1:=(h.below (w':=w.alloc (.cells #[.bool true,.int .u8 ty,.int .u8 fl,.int .u32 (n:Int),.int .u32 st] 113)) (((K0 _).alloc _).below (Nat.le_refl _))).inv
   have bH:=blk_set_other (blk_new w (.cells #[.bool true,.int .u8 ty,.int .u8 fl,.int .u32 (n:Int),.int .u32 st] 113)) (p:=⟨p,0,none⟩) (Ne.symm (Nat.ne_of_lt (lt_of_block hp))) (.bool false)
   have k1:Kept K w ((w.alloc (.cells #[.bool true,.int .u8 ty,.int .u8 fl,.int .u32 (n:Int),.int .u32 st] 113)).setCell ⟨p,0,none⟩ (.bool false)):=((Kept.refl _ w).alloc _).setCell (fun hk=>absurd hk hKp) _
   have c1:=(blk_cell (blk_alloc (p:=.cells #[.bool true,.int .u8 ty,.int .u8 fl,.int .u32 (n:Int),.int .u32 st] 113) h.F) 1).trans h.fs.c1
   have hinv:=inv_any hT ⟨p,0,none⟩
   have hcall:=invalidate_any (blk_alloc (p:=.cells #[.bool true,.int .u8 ty,.int .u8 fl,.int .u32 (n:Int),.int .u32 st] 113) hp) hpv
   go_enter Tryz.func47,Tryz.ntmps47
   go_wp2_with (go_at_call 152;refine hcall.mono ?_;rintro e w' ⟨rfl,rfl⟩)
   clear c1 hinv hcall hp hpv
   generalize (w.alloc (.cells #[.bool true,.int .u8 ty,.int .u8 fl,.int .u32 (n:Int),.int .u32 st] 113)).setCell ⟨p,0,none⟩ (.bool false)=w1 at *
   have hlt:=lt_of_block bH
   have hK1:=h1.widen1 (q:=w.heap.size) hlt (lt_of_block h.F) (lt_of_block h.C) (lt_of_block h.R.R) (fun g n c e=>h.rbLt e) (fun T p e=>h.lfLt e)
   have c16:=(blk_cell h1.F 16).trans h1.fs.c16
   have ch3:w1.cell? ⟨w.heap.size,3,none⟩=some (.int .u32 (n:Int)):=blk_cell bH 3
   have hgb:=getBuf_any hK1.drew n hn
   go_region_held3 (fun w'=>w'.cell? ⟨bF,16,none⟩=some (.func (.func 45) #[] #[.pointer (some ⟨cl,0,none⟩)])∧w'.cell? ⟨w.heap.size,3,none⟩=some (.int .u32 (n:Int))) (go_keep) (first|(go_at_call 45;refine hgb.mono ?_;rintro e w2 ⟨pl,rfl,k2,cs2,rb2,h2,hpl⟩;have c162:=(blk_cell h2.F 16).trans h2.fs.c16;have b2:=k2.at (show K w.heap.size∨w.heap.size=w.heap.size from .inr rfl) (show w1.drew.heap[w.heap.size]? = _ from bH);have ch32:w2.cell? ⟨w.heap.size,3,none⟩=some (.int .u32 (n:Int)):=blk_cell b2 3))
   clear hgb c16 ch3 c162 ch32
   rcases hpl with ⟨h0,-⟩|⟨g,n',cap,bc,rfl,rfl,hg,hbc,hnc,hcap,hKg⟩
   · omega
   have hgR:=(h2.rbNe rfl).2.2
   have hBg:B≤g:=Nat.le_of_not_lt fun e=>hKg (h2.gl _ e)
   have hrf:=readFull_cut h2.V h2.R h2.lim hg (off:=0) (n:=n) (cap:=cap) (by omega) (by omega) hnc (by unfold maxLen;omega) hgR (h2.rkR hKg) (h2.pkR hKg) h2.BR hBg (by omega)
   have c0:=(blk_cell h2.F 0).trans h2.fs.c0
   go_wp2_with (go_at_call 82;refine hrf.mono ?_;rintro e w3 ⟨⟨ae,rfl,hae⟩,hend⟩)
   have b3:=hend.blkOf b2 (Nat.ne_of_gt (lt_of_block h.R.R)) (fun e=>hKg (.inr e.symm))
   obtain ⟨z0,z1,z2,z3,z4,-⟩:=five b3
   have k3:Kept K w w3:=(k1.trans (((Kept.refl _ w1).drew).trans (k2.mono fun k hk _ => .inl hk))).trans (hend.choose_spec.choose_spec.choose_spec.2.2.2.2.1.mono fun k hk _=>⟨fun e=>h.kR (e▸hk),fun e=>hKg (.inl (e▸hk))⟩)
   obtain ⟨bb,heq⟩:=eql_hd ty fl (n:Int) st
   clear hrf hend c0 b2 k2 h2 hg b3 h1 hK1 bH k1
   go_region_held3 (fun w'=>w'.cell? ⟨w.heap.size,0,none⟩=some (.bool true)∧w'.cell? ⟨w.heap.size,1,none⟩=some (.int .u8 ty)∧w'.cell? ⟨w.heap.size,2,none⟩=some (.int .u8 fl)∧w'.cell? ⟨w.heap.size,3,none⟩=some (.int .u32 (n:Int))∧w'.cell? ⟨w.heap.size,4,none⟩=some (.int .u32 st)) (go_keep) (first|(go_at_call 80;refine (invalid_any _).mono ?_;rintro e w' ⟨rfl,rfl⟩))
   all_goals
     clear z0 z1 z2 z3 z4 heq
     cases bb
     all_goals
       go_wp2
       go_ret2
       refine ⟨by rw [errV_cut ae hae];rfl,k3.trans ?_⟩
       repeat (first|(with_reducible exact Kept.refl _ _)|(with_reducible refine Kept.alloc ?_ _)|(with_reducible refine Kept.drawn ?_ _)|(with_reducible refine Kept.drew ?_))
end
end Go.Proofs.YtfdlbjibninakaaGreatDoor

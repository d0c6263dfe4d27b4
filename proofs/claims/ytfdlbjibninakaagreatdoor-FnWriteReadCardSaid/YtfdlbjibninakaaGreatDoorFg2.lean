/- Reading: the framer's ReadFrameForHeader at a payload that is whole. -/
import Derived.Test.YtfdlbjibninakaaGreatDoorFg
set_option linter.unusedVariables false
set_option linter.unusedSimpArgs false
namespace Go.Proofs.YtfdlbjibninakaaGreatDoor
set_option maxRecDepth 10000
set_option maxHeartbeats 8000000
open Go.RowKit
section
variable {B : Nat} {K : Nat → Prop} {aE aU aT : Addr} {w w' : World} {bF cl bR : Nat} {m o o' : Int} {L L' ps : List Int} {cs cs' : Array Value} {lf rb rest rest' pcs : Value} {at' at'' : Nat}
theorem RSt.lfNotInt (h:RSt B K aE aU aT w bF cl bR m o L ps cs lf rb rest pcs at') (i:Int):lf ≠ .int .u8 i:=by
 rcases h.lfCases with e|⟨T,p,e,-⟩<;>rw [e]<;>exact fun e=>by cases e
theorem FrV.isPtr {A:Nat} {fv:Value} {x:Fr} (h:FrV A w fv x):∃T p,fv = .iface T (.pointer (some ⟨p,0,none⟩)):=by cases h<;>exact ⟨_,_,rfl⟩
theorem enter_of {f:FuncId} {fn:Func} {c:Code} (hf:Tryz.prog.funcs[f]? = some fn) (hname:(fn.name == "runtime.NumGoroutine")=false) (hb:fn.body=some c) (args:Array Value) (w:World):(callFunc f args).run Tryz.prog w = .ok (.enter f args) w:=by
 have h1:fn.name ≠ "runtime.NumGoroutine" := by simpa using hname
 simp [callFunc,hf,h1,hb]
theorem parser_enter (ty:Int) (args:Array Value) (w:World):(callFunc (parserF ty) args).run Tryz.prog w = .ok (.enter (parserF ty) args) w:=by
 unfold parserF
 by_cases h0:ty=0
 · subst h0
   exact enter_of Tryz.func109 (by kernel_rfl) rfl args w
 rw [if_neg h0]
 by_cases h1:ty=1
 · subst h1
   exact enter_of Tryz.func110 (by kernel_rfl) rfl args w
 rw [if_neg h1]
 by_cases h2:ty=2
 · subst h2
   exact enter_of Tryz.func111 (by kernel_rfl) rfl args w
 rw [if_neg h2]
 by_cases h3:ty=3
 · subst h3
   exact enter_of Tryz.func112 (by kernel_rfl) rfl args w
 rw [if_neg h3]
 by_cases h4:ty=4
 · subst h4
   exact enter_of Tryz.func113 (by kernel_rfl) rfl args w
 rw [if_neg h4]
 by_cases h5:ty=5
 · subst h5
   exact enter_of Tryz.func114 (by kernel_rfl) rfl args w
 rw [if_neg h5]
 by_cases h6:ty=6
 · subst h6
   exact enter_of Tryz.func115 (by kernel_rfl) rfl args w
 rw [if_neg h6]
 by_cases h7:ty=7
 · subst h7
   exact enter_of Tryz.func116 (by kernel_rfl) rfl args w
 rw [if_neg h7]
 by_cases h8:ty=8
 · subst h8
   exact enter_of Tryz.func117 (by kernel_rfl) rfl args w
 rw [if_neg h8]
 by_cases h9:ty=9
 · subst h9
   exact enter_of Tryz.func118 (by kernel_rfl) rfl args w
 rw [if_neg h9]
 by_cases h16:ty=16
 · subst h16
   exact enter_of Tryz.func119 (by kernel_rfl) rfl args w
 rw [if_neg h16]
 exact enter_of Tryz.func120 (by kernel_rfl) rfl args w
theorem cell_set_ne {a c:Addr} {u v:Value} (h:w.cell? a=some u) (hc:w.cell? c=some v) (hne:u≠v) (x:Value):(w.setCell c x).cell? a=some u:=by
 have:a≠c:=fun e=>hne (by rw [e,hc] at h;exact (Option.some.inj h).symm)
 rw [World.cell?_setCell_other (h:=Ne.symm this)]
 exact h
theorem RdI.setOther {k:IntKind} {v u x:Value} {l:List Int} {c:Addr} (h:RdI k w v l) (hc:w.cell? c=some u) (hu:∀i,u ≠ .int k i):RdI k (w.setCell c x) v l:=by
 obtain ⟨a,n,rfl,h1,h2,h3⟩:=h
 refine ⟨a,n,rfl,h1,h2,fun j y hy => ?_⟩
 obtain ⟨b,o,e,hcell⟩:=h3 j y hy
 exact ⟨b,o,e,cell_set_ne hcell hc (fun e=>hu _ e.symm) x⟩
theorem FrV.ge {A:Nat} {T p:Nat} {x:Fr} (h:FrV A w (.iface T (.pointer (some ⟨p,0,none⟩))) x):A≤p:=by cases h<;>assumption
theorem FrV.setF {A:Nat} {fv u x1:Value} {x:Fr} {c1:Array Value} (h:FrV A w fv x) (hF:w.heap[bF]? = some (.cells c1 86 (0,0))) (hc:w.cell? ⟨bF,1,none⟩=some u) (hu:∀i,u ≠ .int .u8 i):FrV A (w.setCell ⟨bF,1,none⟩ x1) fv x:=by
 cases h with
 | data h b p v hB hp hv=>exact .data h b p v hB (blk_set_other hp (ne_type hp hF (by decide)) _) (hv.setOther hc hu)
 | headers h b p v dep wt ex hB hp hv=>exact .headers h b p v dep wt ex hB (blk_set_other hp (ne_type hp hF (by decide)) _) (hv.setOther hc hu)
 | priority h p dep wt ex hB hp=>exact .priority h p dep wt ex hB (blk_set_other hp (ne_type hp hF (by decide)) _)
 | rst h p co hB hp=>exact .rst h p co hB (blk_set_other hp (ne_type hp hF (by decide)) _)
 | settings h b p v hB hp hv h6 hb=>exact .settings h b p v hB (blk_set_other hp (ne_type hp hF (by decide)) _) (hv.setOther hc hu) h6 hb
 | push h b p v pr hB hp hv=>exact .push h b p v pr hB (blk_set_other hp (ne_type hp hF (by decide)) _) (hv.setOther hc hu)
 | ping h b p cs hB hp hz h0 h1 h2 h3 h4 hd hl=>exact .ping h b p cs hB (blk_set_other hp (ne_type hp hF (by decide)) _) hz h0 h1 h2 h3 h4 hd hl
 | goaway h b p v la co hB hp hv=>exact .goaway h b p v la co hB (blk_set_other hp (ne_type hp hF (by decide)) _) (hv.setOther hc hu)
 | window h p inc hB hp=>exact .window h p inc hB (blk_set_other hp (ne_type hp hF (by decide)) _)
 | cont h b p v hB hp hv=>exact .cont h b p v hB (blk_set_other hp (ne_type hp hF (by decide)) _) (hv.setOther hc hu)
 | update h b p pr hB hp hl hb=>exact .update h b p pr hB (blk_set_other hp (ne_type hp hF (by decide)) _) hl hb
 | unknown h b p v hB hp hv=>exact .unknown h b p v hB (blk_set_other hp (ne_type hp hF (by decide)) _) (hv.setOther hc hu)
theorem ta_E (v:Value) (w:World):(Instr.typeAssert (.iface 251 v) 77 197 true).run Tryz.prog w = .ok (.tuple #[.agg #[.int .u32 0,.string ⟨#[]⟩],.bool false]) w:=by kernel_rfl
theorem ta_C (v:Value) (w:World):(Instr.typeAssert (.iface 117 v) 77 197 true).run Tryz.prog w = .ok (.tuple #[.agg #[.int .u32 0,.string ⟨#[]⟩],.bool false]) w:=by kernel_rfl
theorem ta_S (v:Value) (w:World):(Instr.typeAssert (.iface 120 v) 77 197 true).run Tryz.prog w = .ok (.tuple #[.agg #[.int .u32 0,.string ⟨#[]⟩],.bool false]) w:=by kernel_rfl
theorem ta_R (c:Int) (t:ByteArray) (w:World):(Instr.typeAssert (.iface 197 (.agg #[.int .u32 c,.string t])) 77 197 true).run Tryz.prog w = .ok (.tuple #[.agg #[.int .u32 c,.string t],.bool true]) w:=by kernel_rfl
def FEndR (B:Nat) (K:Nat→Prop) (aE aU aT:Addr) (w:World) (bF cl bR:Nat) (m o:Int) (L ps:List Int) (pcs:Value) (r:Rs) (e:Ending) (w':World):Prop:=
 ∃fv ev,e = .returned (.tuple #[fv,ev])∧Kept K w w'∧(∃cs' lf' rb' rest' at'',RSt B K aE aU aT w' bF cl bR m o L ps cs' lf' rb' rest' pcs at'') ∧
   ((∃x A,r = .ok x∧ev = .nilIface∧FrV A w' fv x)∨(∃f c s,r = .bad f c s∧fv = .nilIface∧ev=errV aE aU aT f c s))
theorem ffh_whole (h:RSt B K aE aU aT w bF cl bR m o L ps cs lf rb rest pcs at') (ty fl st:Int) (hfl:0≤fl∧fl<256) (n:Nat) (hn:n≤16777215) (hn0:0<n) (hL:n≤L.length):Calls Tryz.prog 47 #[.pointer (some ⟨bF,0,none⟩),hdV ty fl (n:Int) st] w (FEndR B K aE aU aT w bF cl bR m o (L.drop n) ps pcs (parse ⟨ty,fl,n,st⟩ (L.take n))):=by
 rcases h.lfCases with rfl|⟨T,p,rfl,hT,hKp,pc,pt,pv,hp,hpv⟩
 · have h1:=h.below (w':=w.alloc (.cells #[.bool true,.int .u8 ty,.int .u8 fl,.int .u32 (n:Int),.int .u32 st] 113)) (((K0 _).alloc _).below (Nat.le_refl _))
   have bH:=blk_new w (.cells #[.bool true,.int .u8 ty,.int .u8 fl,.int .u32 (n:Int),.int .u32 st] 113)
   have k1:Kept K w (w.alloc (.cells #[.bool true,.int .u8 ty,.int .u8 fl,.int .u32 (n:Int),.int .u32 st] 113)):=(Kept.refl _ w).alloc _
   have c1:=(blk_cell h1.F 1).trans h1.fs.c1
   go_enter Tryz.func47,Tryz.ntmps47
   go_wp2
   clear c1
   generalize w.alloc (.cells #[.bool true,.int .u8 ty,.int .u8 fl,.int .u32 (n:Int),.int .u32 st] 113)=w1 at *
   have hlt:=lt_of_block bH
   have hK1:=h1.widen1 (q:=w.heap.size) hlt (lt_of_block h.F) (lt_of_block h.C) (lt_of_block h.R.R) (fun g n c e=>h.rbLt e) (fun T p e=>h.lfLt e)
   have c16:=(blk_cell h1.F 16).trans h1.fs.c16
   have ch3:w1.cell? ⟨w.heap.size,3,none⟩=some (.int .u32 (n:Int)):=blk_cell bH 3
   have hgb:=getBuf_any hK1.drew n hn
   go_region_held3 (fun w'=>w'.cell? ⟨bF,16,none⟩=some (.func (.func 45) #[] #[.pointer (some ⟨cl,0,none⟩)])∧w'.cell? ⟨w.heap.size,3,none⟩=some (.int .u32 (n:Int))) (go_keep) (first|(go_at_call 45;refine hgb.mono ?_;rintro e w2 ⟨pl,rfl,k2,cs2,rb2,h2,hpl⟩;have c162:=(blk_cell h2.F 16).trans h2.fs.c16;have b2:=k2.at (show K w.heap.size∨w.heap.size=w.heap.size from .inr rfl) (show w1.drew.heap[w.heap.size]? = _ from bH);have ch32:w2.cell? ⟨w.heap.size,3,none⟩=some (.int .u32 (n:Int)):=blk_cell b2 3))
   clear hgb c16 ch3 c162 ch32
   rcases hpl with ⟨h0,-⟩|⟨g,n',cap,bc,rfl,rfl,hg,hbc,hnc,hcap,hKg⟩
   · omega
   have hgR:=(h2.rbNe rfl).2.2
   have hBg:B≤g:=Nat.le_of_not_lt fun e=>hKg (h2.gl _ e)
   have hrf:=readFull_ok h2.V h2.R h2.lim hg (off:=0) (n:=n) (cap:=cap) (by omega) (by omega) hnc (by unfold maxLen;omega) hgR (h2.rkR hKg) (h2.pkR hKg) h2.BR hBg hL
   have c0:=(blk_cell h2.F 0).trans h2.fs.c0
   go_wp2_with (go_at_call 82;refine hrf.mono ?_;rintro e w3 ⟨rfl,hend⟩)
   have b3:=hend.blkOf b2 (Nat.ne_of_gt (lt_of_block h.R.R)) (fun e=>hKg (.inr e.symm))
   obtain ⟨⟨rest3,at3,h3,hin3⟩,kk3,hrd⟩:=h2.rdBody hg hend
   have hrd:=hrd hL hnc (by unfold maxLen;omega)
   obtain ⟨z0,z1,z2,z3,z4,-⟩:=five b3
   have c3:=(blk_cell h3.F 3).trans h3.fs.c3
   have c23:=(blk_cell h3.F 23).trans h3.fs.c23
   have k3:Kept K w w3:=(k1.trans (((Kept.refl _ w1).drew).trans (k2.mono fun k hk _ => .inl hk))).trans (kk3.mono fun k hk _ => .inl hk)
   have hps:=parse_any h3.drew.V ty fl (n:Int) st hfl.1 hfl.2 (some ⟨g,0,none⟩) n cap (L.take n) (w:=w3.drew) hrd (h2.bs.take n)
   have hpe:=parser_enter ty
   clear hrf hend c0 b2 k2 h2 hg h1 hK1 bH k1 hrd kk3
   go_region_held3 (fun w'=>w'.cell? ⟨w.heap.size,0,none⟩=some (.bool true)∧w'.cell? ⟨w.heap.size,1,none⟩=some (.int .u8 ty)∧w'.cell? ⟨w.heap.size,2,none⟩=some (.int .u8 fl)∧w'.cell? ⟨w.heap.size,3,none⟩=some (.int .u32 (n:Int))∧w'.cell? ⟨w.heap.size,4,none⟩=some (.int .u32 st)∧w'.cell? ⟨bF,3,none⟩=some cntV∧w'.cell? ⟨bF,23,none⟩=some (.pointer none)) (go_keep) (first
     | (go_at_call 83;refine (typeParser_any ty _).mono ?_;rintro e w' ⟨rfl,rfl⟩)
     | (refine hps.mono ?_;rintro e w4 ⟨fv,ev,rfl,hb4,hres⟩;have y0:=cell_below (w:=w3.drew) z0 hb4;have y1:=cell_below (w:=w3.drew) z1 hb4;have y2:=cell_below (w:=w3.drew) z2 hb4;have y3:=cell_below (w:=w3.drew) z3 hb4;have y4:=cell_below (w:=w3.drew) z4 hb4;have y5:=cell_below (w:=w3.drew) c3 hb4;have y6:=cell_below (w:=w3.drew) c23 hb4))
   all_goals
     clear hps hpe y0 y1 y2 y3 y4 y5 y6 z0 z1 z2 z3 z4 c3 c23
     have h4:=(h3.drew.below hb4).narrow (K:=K) (fun k hk => .inl hk) h.gl (hin3 (· < B) h.rk0) h.pk0
     have k4:Kept K w w4:=k3.trans ((Kept.undrew (Kept.all (K:=K) hb4)))
     have hA3:∀k,K k→k<w3.drew.heap.size:=fun k hk=>h3.lt k (.inl hk)
     have c1:=(blk_cell h4.F 1).trans h4.fs.c1
     have f1:=blk_free h4.F 1
     have h3F:bF<w3.drew.heap.size:=lt_of_block h3.F
     clear h3 hb4 hin3 b3 k3
     rcases hres with ⟨x,hr,rfl,hfv⟩|⟨f,c,s,hr,rfl,hev⟩
     · obtain ⟨T4,p4,rfl⟩:=hfv.isPtr
       have HR:=Lib.hid hr
       clear hr
       go_wp2
       go_ret2
       have hlf:=hfv.last (K:=K) hA3
       refine ⟨_,_,rfl,k4.setCell (fun hk=>absurd hk h.kF) _,⟨_,_,_,_,_,h4.setLf (hlf.kept ((Kept.refl (· ≠ bF) w4).setCell (fun hk=>absurd rfl hk) _) (fun T q e=>by cases e;have:=hfv.ge;have:=h3F;omega))⟩,.inl ⟨x,w3.drew.heap.size,HR.out,rfl,hfv.setF h4.F c1 h.lfNotInt⟩⟩
     · have HR:=Lib.hid hr
       clear hr
       rcases hev with ⟨rfl,rfl,rfl,rfl⟩|⟨rfl,rfl,rfl⟩|⟨rfl,rfl,t,rfl⟩|⟨rfl,rfl⟩
       · have hta:=ta_E (.pointer (some aU))
         go_wp2
         go_ret2
         exact ⟨_,_,rfl,k4.alloc _,⟨_,_,_,_,_,h4.below (((K0 _).alloc _).below (Nat.le_refl _))⟩,.inr ⟨_,_,_,HR.out,rfl,by simp [errV]⟩⟩
       · have hta:=ta_C (.int .u32 c)
         go_wp2
         go_ret2
         exact ⟨_,_,rfl,k4.alloc _,⟨_,_,_,_,_,h4.below (((K0 _).alloc _).below (Nat.le_refl _))⟩,.inr ⟨_,_,_,HR.out,rfl,by simp [errV]⟩⟩
       · have hta:=ta_R c t
         go_wp2_with (go_at_call 84;refine (connError_any (blk_alloc h4.F) h4.fs c t).mono ?_;rintro e w5 ⟨rfl,hf5⟩)
         go_ret2
         exact ⟨_,_,rfl,(k4.alloc _).trans (hf5.onK h.kF),⟨_,_,_,_,_,((h4.below (((K0 _).alloc _).below (Nat.le_refl _))).fend hf5 h4.o0).choose_spec⟩,.inr ⟨_,_,_,HR.out,rfl,by simp [errV]⟩⟩
       · have hta:=ta_S (.agg #[.int .u32 s,.int .u32 c,.nilIface])
         go_wp2
         go_ret2
         exact ⟨_,_,rfl,k4.alloc _,⟨_,_,_,_,_,h4.below (((K0 _).alloc _).below (Nat.le_refl _))⟩,.inr ⟨_,_,_,HR.out,rfl,by simp [errV]⟩⟩
 · have h1:=(h.below (w':=w.alloc (.cells #[.bool true,.int .u8 ty,.int .u8 fl,.int .u32 (n:Int),.int .u32 st] 113)) (((K0 _).alloc _).below (Nat.le_refl _))).inv
   have bH:=blk_set_other (blk_new w (.cells #[.bool true,.int .u8 ty,.int .u8 fl,.int .u32 (n:Int),.int .u32 st] 113)) (p:=⟨p,0,none⟩) (Ne.symm (Nat.ne_of_lt (lt_of_block hp))) (.bool false)
   have k1:Kept K w ((w.alloc (.cells #[.bool true,.int .u8 ty,.int .u8 fl,.int .u32 (n:Int),.int .u32 st] 113)).setCell ⟨p,0,none⟩ (.bool false)):=((Kept.refl _ w).alloc _).setCell (fun hk=>absurd hk hKp) _
   have c1:=(blk_cell (blk_alloc (p:=.cells #[.bool true,.int .u8 ty,.int .u8 fl,.int .u32 (n:Int),.int .u32 st] 113) h.F) 1).trans h.fs.c1
   have hinv:=inv_any hT ⟨p,0,none⟩
   have hcall:=invalidate_any (blk_alloc (p:=.cells #[.bool true,.int .u8 ty,.int .u8 fl,.int .u32 (n:Int),.int .u32 st] 113) hp) hpv
   go_enter Tryz.func47,Tryz.ntmps47
   go_wp2_with (go_at_call 152;refine hcall.mono ?_;rintro e w' ⟨rfl,rfl⟩)
   clear c1 hinv hcall hp hpv
   generalize (w.alloc (.cells #[.bool true,.int .u8 ty,.int .u8 fl,.int .u32 (n:Int),.int .u32 st] 113)).setCell ⟨p,0,none⟩ (.bool false)=w1 at *
   have hlt:=lt_of_block bH
   have hK1:=h1.widen1 (q:=w.heap.size) hlt (lt_of_block h.F) (lt_of_block h.C) (lt_of_block h.R.R) (fun g n c e=>h.rbLt e) (fun T p e=>h.lfLt e)
   have c16:=(blk_cell h1.F 16).trans h1.fs.c16
   have ch3:w1.cell? ⟨w.heap.size,3,none⟩=some (.int .u32 (n:Int)):=blk_cell bH 3
   have hgb:=getBuf_any hK1.drew n hn
   go_region_held3 (fun w'=>w'.cell? ⟨bF,16,none⟩=some (.func (.func 45) #[] #[.pointer (some ⟨cl,0,none⟩)])∧w'.cell? ⟨w.heap.size,3,none⟩=some (.int .u32 (n:Int))) (go_keep) (first|(go_at_call 45;refine hgb.mono ?_;rintro e w2 ⟨pl,rfl,k2,cs2,rb2,h2,hpl⟩;have c162:=(blk_cell h2.F 16).trans h2.fs.c16;have b2:=k2.at (show K w.heap.size∨w.heap.size=w.heap.size from .inr rfl) (show w1.drew.heap[w.heap.size]? = _ from bH);have ch32:w2.cell? ⟨w.heap.size,3,none⟩=some (.int .u32 (n:Int)):=blk_cell b2 3))
   clear hgb c16 ch3 c162 ch32
   rcases hpl with ⟨h0,-⟩|⟨g,n',cap,bc,rfl,rfl,hg,hbc,hnc,hcap,hKg⟩
   · omega
   have hgR:=(h2.rbNe rfl).2.2
   have hBg:B≤g:=Nat.le_of_not_lt fun e=>hKg (h2.gl _ e)
   have hrf:=readFull_ok h2.V h2.R h2.lim hg (off:=0) (n:=n) (cap:=cap) (by omega) (by omega) hnc (by unfold maxLen;omega) hgR (h2.rkR hKg) (h2.pkR hKg) h2.BR hBg hL
   have c0:=(blk_cell h2.F 0).trans h2.fs.c0
   go_wp2_with (go_at_call 82;refine hrf.mono ?_;rintro e w3 ⟨rfl,hend⟩)
   have b3:=hend.blkOf b2 (Nat.ne_of_gt (lt_of_block h.R.R)) (fun e=>hKg (.inr e.symm))
   obtain ⟨⟨rest3,at3,h3,hin3⟩,kk3,hrd⟩:=h2.rdBody hg hend
   have hrd:=hrd hL hnc (by unfold maxLen;omega)
   obtain ⟨z0,z1,z2,z3,z4,-⟩:=five b3
   have c3:=(blk_cell h3.F 3).trans h3.fs.c3
   have c23:=(blk_cell h3.F 23).trans h3.fs.c23
   have k3:Kept K w w3:=(k1.trans (((Kept.refl _ w1).drew).trans (k2.mono fun k hk _ => .inl hk))).trans (kk3.mono fun k hk _ => .inl hk)
   have hps:=parse_any h3.drew.V ty fl (n:Int) st hfl.1 hfl.2 (some ⟨g,0,none⟩) n cap (L.take n) (w:=w3.drew) hrd (h2.bs.take n)
   have hpe:=parser_enter ty
   clear hrf hend c0 b2 k2 h2 hg h1 hK1 bH k1 hrd kk3
   go_region_held3 (fun w'=>w'.cell? ⟨w.heap.size,0,none⟩=some (.bool true)∧w'.cell? ⟨w.heap.size,1,none⟩=some (.int .u8 ty)∧w'.cell? ⟨w.heap.size,2,none⟩=some (.int .u8 fl)∧w'.cell? ⟨w.heap.size,3,none⟩=some (.int .u32 (n:Int))∧w'.cell? ⟨w.heap.size,4,none⟩=some (.int .u32 st)∧w'.cell? ⟨bF,3,none⟩=some cntV∧w'.cell? ⟨bF,23,none⟩=some (.pointer none)) (go_keep) (first
     | (go_at_call 83;refine (typeParser_any ty _).mono ?_;rintro e w' ⟨rfl,rfl⟩)
     | (refine hps.mono ?_;rintro e w4 ⟨fv,ev,rfl,hb4,hres⟩;have y0:=cell_below (w:=w3.drew) z0 hb4;have y1:=cell_below (w:=w3.drew) z1 hb4;have y2:=cell_below (w:=w3.drew) z2 hb4;have y3:=cell_below (w:=w3.drew) z3 hb4;have y4:=cell_below (w:=w3.drew) z4 hb4;have y5:=cell_below (w:=w3.drew) c3 hb4;have y6:=cell_below (w:=w3.drew) c23 hb4))
   all_goals
     clear hps hpe y0 y1 y2 y3 y4 y5 y6 z0 z1 z2 z3 z4 c3 c23
     have h4:=(h3.drew.below hb4).narrow (K:=K) (fun k hk => .inl hk) h.gl (hin3 (· < B) h.rk0) h.pk0
     have k4:Kept K w w4:=k3.trans ((Kept.undrew (Kept.all (K:=K) hb4)))
     have hA3:∀k,K k→k<w3.drew.heap.size:=fun k hk=>h3.lt k (.inl hk)
     have c1:=(blk_cell h4.F 1).trans h4.fs.c1
     have f1:=blk_free h4.F 1
     have h3F:bF<w3.drew.heap.size:=lt_of_block h3.F
     clear h3 hb4 hin3 b3 k3
     rcases hres with ⟨x,hr,rfl,hfv⟩|⟨f,c,s,hr,rfl,hev⟩
     · obtain ⟨T4,p4,rfl⟩:=hfv.isPtr
       have HR:=Lib.hid hr
       clear hr
       go_wp2
       go_ret2
       have hlf:=hfv.last (K:=K) hA3
       refine ⟨_,_,rfl,k4.setCell (fun hk=>absurd hk h.kF) _,⟨_,_,_,_,_,h4.setLf (hlf.kept ((Kept.refl (· ≠ bF) w4).setCell (fun hk=>absurd rfl hk) _) (fun T q e=>by cases e;have:=hfv.ge;have:=h3F;omega))⟩,.inl ⟨x,w3.drew.heap.size,HR.out,rfl,hfv.setF h4.F c1 h.lfNotInt⟩⟩
     · have HR:=Lib.hid hr
       clear hr
       rcases hev with ⟨rfl,rfl,rfl,rfl⟩|⟨rfl,rfl,rfl⟩|⟨rfl,rfl,t,rfl⟩|⟨rfl,rfl⟩
       · have hta:=ta_E (.pointer (some aU))
         go_wp2
         go_ret2
         exact ⟨_,_,rfl,k4.alloc _,⟨_,_,_,_,_,h4.below (((K0 _).alloc _).below (Nat.le_refl _))⟩,.inr ⟨_,_,_,HR.out,rfl,by simp [errV]⟩⟩
       · have hta:=ta_C (.int .u32 c)
         go_wp2
         go_ret2
         exact ⟨_,_,rfl,k4.alloc _,⟨_,_,_,_,_,h4.below (((K0 _).alloc _).below (Nat.le_refl _))⟩,.inr ⟨_,_,_,HR.out,rfl,by simp [errV]⟩⟩
       · have hta:=ta_R c t
         go_wp2_with (go_at_call 84;refine (connError_any (blk_alloc h4.F) h4.fs c t).mono ?_;rintro e w5 ⟨rfl,hf5⟩)
         go_ret2
         exact ⟨_,_,rfl,(k4.alloc _).trans (hf5.onK h.kF),⟨_,_,_,_,_,((h4.below (((K0 _).alloc _).below (Nat.le_refl _))).fend hf5 h4.o0).choose_spec⟩,.inr ⟨_,_,_,HR.out,rfl,by simp [errV]⟩⟩
       · have hta:=ta_S (.agg #[.int .u32 s,.int .u32 c,.nilIface])
         go_wp2
         go_ret2
         exact ⟨_,_,rfl,k4.alloc _,⟨_,_,_,_,_,h4.below (((K0 _).alloc _).below (Nat.le_refl _))⟩,.inr ⟨_,_,_,HR.out,rfl,by simp [errV]⟩⟩
end
end Go.Proofs.YtfdlbjibninakaaGreatDoor

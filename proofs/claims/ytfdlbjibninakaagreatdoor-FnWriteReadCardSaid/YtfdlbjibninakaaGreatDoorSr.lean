/- The reference's reading: spec.Read against its plain model. -/
import Derived.Test.YtfdlbjibninakaaGreatDoorPyD
import Derived.Deep.CutRange
import Derived.BigGuard
import Derived.Outline
set_option linter.unusedVariables false
set_option linter.unusedSimpArgs false
namespace Go.Proofs.YtfdlbjibninakaaGreatDoor
set_option maxRecDepth 100000
set_option maxHeartbeats 60000000
open Go.RowKit
theorem rdI_ltS {k:IntKind} {w:World} {v:Value} {l:List Int} (h:RdI k w v l):inK (· < w.heap.size) v:=by
 obtain ⟨a,c,rfl,-,-,h3⟩:=h
 cases a with
 | none=>trivial
 | some a =>
   cases l with
   | nil=>exact .inl rfl
   | cons y l =>
     obtain ⟨b,o,e,hc⟩:=h3 0 y rfl
     cases e
     exact .inr (World.block_lt_of_cell? _ _ hc)
theorem rdP_ltS {w:World} {v:Value} {l:List (Int × Int)} (h:RdP w v l):inK (· < w.heap.size) v:=by
 obtain ⟨a,c,rfl,-,-,h3⟩:=h
 cases a with
 | none=>trivial
 | some a =>
   cases l with
   | nil=>exact .inl rfl
   | cons y l =>
     obtain ⟨b,o,e,hc,-⟩:=h3 0 y rfl
     cases e
     exact .inr (World.block_lt_of_cell? _ _ hc)
theorem blkEqS {w:World} {b:Nat} {cs cs':Array Value} {t:TypeId} {fr:Nat × Nat} (h:w.heap[b]? = some (.cells cs t fr)) (e:cs=cs'):w.heap[b]? = some (.cells cs' t fr):=e▸h
structure SrL (w:World) (out:Value) (rs:List Rs) (wr:World):Prop where
 row:∃xs,Row wr 31 17 out rs.length xs∧RsAll (fun j=>out.ownBlock≠some j∧j<wr.heap.size) wr xs rs
 fr:Fresh w.heap.size out
 B:Below w.heap.size w wr
theorem SrL.below {w wr w':World} {out:Value} {rs:List Rs} (h:SrL w out rs wr) (hb:Below wr.heap.size wr w'):SrL w out rs w':=by
 obtain ⟨xs,h1,h2⟩:=h.row
 exact ⟨⟨xs,own_below h1 hb,(h2.stay hb).mono fun j hj=>⟨hj.1,Nat.lt_of_lt_of_le hj.2 hb.size⟩⟩,h.fr,Below.step' h.B hb⟩
def SrEnd (w:World) (x:List Rs × Bool) (e:Ending) (w':World):Prop := ∃v,e = .returned (.tuple #[v,.bool x.2])∧Below w.heap.size w w'∧ResR 31 w' v x.1∧Fresh w.heap.size v
theorem SrL.fin {w wr:World} {out:Value} {rs:List Rs} {q:Bool} {x:List Rs × Bool} (h:SrL w out rs wr) (hx:x=(rs,q)):SrEnd w x (.returned (.tuple #[out,.bool q])) wr:=by
 subst hx
 obtain ⟨xs,h1,h2⟩:=h.row
 exact ⟨out,rfl,h.B,⟨xs,h1,h2.mono fun _ _=>trivial⟩,h.fr⟩
theorem SrL.more {w wr w2 w3:World} {ob:Obj} {out out':Value} {rs:List Rs} {xs:List Value} {r:Rs} {dv sv:Value} {n:Nat} (hr:Row wr 31 17 out rs.length xs) (h:SrL w out rs wr) (ha:RsAll (fun j=>out.ownBlock≠some j∧j<wr.heap.size) wr xs rs) (hb2:Below wr.heap.size wr w2) (hn:wr.heap.size≤n)
   (hgrow:(w2.alloc ob).grownBy w3 out.ownBlock) (hat:out'.ownBlock=out.ownBlock∨out'.ownBlock=some (w2.alloc ob).heap.size)
   (hrow:Row w3 31 17 out' (rs.length+1) (xs++(rsX r dv sv).toList)) (hd:RdB w dv r.x.data) (hs:RdP w2 sv r.x.set) (fs:inK (n ≤ ·) sv):SrL w out' (rs ++ [r]) w3:=by
 have hol:=own_lt hr
 have hf:=h.fr
 have hbel:Below w.heap.size w w2:=Below.step' h.B hb2
 have s2:=hb2.size
 have s3:=hgrow.size
 have sa:(w2.alloc ob).heap.size=w2.heap.size+1:=by simp
 rw [sa] at s3 hat
 have k23:∀{J:Nat→Prop},(∀k,out.ownBlock=some k→J k→False)→Kept J w2 w3:=fun {J} hJ=>((Kept.refl J w2).alloc ob).grown hgrow (fun k e h=>(hJ k e h).elim)
 have ne':∀k,k<w2.heap.size→out.ownBlock≠some k→out'.ownBlock≠some k:=by
   intro k hk hne e
   rcases hat with h|h
   · exact hne (h.symm.trans e)
   · rw [h] at e;cases e;omega
 have hb3:Kept (· < w.heap.size) w w3:=(Kept.ofBelow hbel).trans (k23 fun k e h=>by have:=hf k e;omega)
 have hsz:w.heap.size≤wr.heap.size:=h.B.size
 refine ⟨⟨_,by rw [List.length_append];exact hrow,RsAll.snoc (((ha.stay hb2).kept (k23 fun k e h=>h.1 e)).mono fun k h=>⟨ne' k (by omega) h.1,by omega⟩) (hd.kept hb3 (rdI_ltS hd)) ?_ (hs.kept (k23 (J:=(n ≤ ·)) fun k e h=>by have:=hol k e;omega) fs) ?_⟩,?_,hb3.below (Nat.le_refl _)⟩
 · exact (rdI_ltS hd).mono' fun k h=>⟨ne' k (by omega) fun e=>by have:=hf k e;omega,by omega⟩
 · have h2:=rdP_ltS hs
   revert fs h2
   cases sv with
   | slice a m c=>cases a with
     | none=>intros;trivial
     | some a=>exact fun fs h2=>fs.elim .inl fun fs=>h2.elim .inl fun h2 => .inr ⟨ne' _ h2 fun e=>by have:=hol _ e;omega,by omega⟩
   | _=>intros;trivial
 · intro g hg
   rcases hat with h|h
   · exact hf g (h.symm.trans hg)
   · rw [h] at hg;cases hg;omega
theorem SrL.bad {w wr w2 w3:World} {ob:Obj} {out out':Value} {rs:List Rs} {xs:List Value} {f c s:Int} (hr:Row wr 31 17 out rs.length xs) (h:SrL w out rs wr) (ha:RsAll (fun j=>out.ownBlock≠some j∧j<wr.heap.size) wr xs rs) (hb2:Below wr.heap.size wr w2)
   (hgrow:(w2.alloc ob).grownBy w3 out.ownBlock) (hat:out'.ownBlock=out.ownBlock∨out'.ownBlock=some (w2.alloc ob).heap.size)
   (hrow:Row w3 31 17 out' (rs.length+1) (xs++(rsX (.bad f c s) (.slice none 0 0) (.slice none 0 0)).toList)):SrL w out' (rs ++ [.bad f c s]) w3:=
 SrL.more (n:=wr.heap.size) hr h ha hb2 (Nat.le_refl _) hgrow hat hrow (rdB_nil _) (RdP.nil _) trivial
theorem run_bs_rs17 (c0 c1 c2 c3 c4 c5 c6 c7 c8 c9 c10 c11 c12 c13 c14 c15 c16:Value) (w:World):(Instr.buildSlice 23 1 #[(0,.agg #[c0,c1,c2,c3,c4,c5,c6,c7,c8,c9,c10,c11,c12,c13,c14,c15,c16])]).run Tryz.prog w = .ok (.slice (some ⟨w.heap.size,0,none⟩) 1 1) (w.alloc (.cells #[c0,c1,c2,c3,c4,c5,c6,c7,c8,c9,c10,c11,c12,c13,c14,c15,c16] 31)):=by kernel_rfl
theorem run_bs_rs (fr:Array Value) (hs:fr.size=17) (w:World):(Instr.buildSlice 23 1 #[(0,.agg fr)]).run Tryz.prog w = .ok (.slice (some ⟨w.heap.size,0,none⟩) 1 1) (w.alloc (.cells fr 31)):=by
 obtain ⟨l⟩:=fr
 match l,hs with
 | [c0,c1,c2,c3,c4,c5,c6,c7,c8,c9,c10,c11,c12,c13,c14,c15,c16],_=>exact run_bs_rs17 c0 c1 c2 c3 c4 c5 c6 c7 c8 c9 c10 c11 c12 c13 c14 c15 c16 w
theorem wpList_bs_rs {ops:Array Oper} {rest:List Oper} {o:Oper} {a:Act} {Q:Exit→Act→World→Prop} {w:World} (hgd:o.guard=none) (x:Operand) (ho:o.op = .buildSlice 23 1 #[(0,x)]) (fr:Array Value) (hx:a.eval x = .agg fr) (hs:fr.size=17)
   (h:wpList Tryz.prog ops Q rest (a.put o.dst (.slice (some ⟨w.heap.size,0,none⟩) 1 1)) (w.alloc (.cells fr 31))):wpList Tryz.prog ops Q (o::rest) a w:=by
 refine wpList_plain hgd fun K' hK' => ?_
 unfold Oper.wp
 have:=run_bs_rs fr hs w
 simp [execOp,ho,hx,this,Result.andThen]
 exact hK' _ _ h
theorem step_store_blk {P:Program} {ops:Array Oper} {o:Oper} {a:Act} {Q:Exit→Act→World→Prop} {w:World} {K:Act→World→Prop} {X:Prop} (hgd:o.guard=none) (T:TypeId) (x v:Operand) (ho:o.op = .store T x v) (g:Nat) (hx:a.eval x = .pointer (some ⟨g,0,none⟩)) (cs old:Array Value) (hv:a.eval v = .agg cs) (t:TypeId)
   (hg:w.heap[g]? = some (.cells old t (0,0))) (hsz:cs.size=old.size) (hi:(P.info? T).map (·.size)=some cs.size) (h1:∀u∈cs.toList,u.oneCell'=true)
   (h:∀w',w'.heap[g]? = some (.cells cs t (0,0))→Kept (· ≠ g) w w'→K (a.put o.dst undef) w'):if Region.wanted o (yielded ops a.tmps)=true then Oper.wp P o a w K Q else X:=by
 rw [if_pos (by simp [Region.wanted,hgd])]
 exact wp_store_blk T x v ho g hx cs old hv t hg hsz hi h1 h
def RdCut (w wr:World) (F:Nat) (x:Fr) (r:Rs) (v:Value) (wc:World):Prop := ∃RB da dc sa sc,wr.heap.size≤RB∧v = .pointer (some ⟨RB,0,none⟩)∧wc.heap[RB]? = some (.cells (rsX r (.slice da r.x.data.length dc) (.slice sa r.x.set.length sc)) 31 (0,0)) ∧
 wc.heap[F]? = some (.cells (frX x (.slice none 0 0) (.slice none 0 0)) 29 (0,0))∧Below wr.heap.size wr wc∧RdB w (.slice da r.x.data.length dc) r.x.data∧RdP wc (.slice sa r.x.set.length sc) r.x.set∧inK (wr.heap.size ≤ ·) (.slice sa r.x.set.length sc)
theorem specRead_any {w:World} {L:List Int} {a0:Option Addr} {c0:Nat} (hd:RdB w (.slice a0 L.length c0) L) (hb:Bs L) (hl:L.length≤16777216) (mx:Int) (hm0:0≤mx) :
   Calls Tryz.prog 7 #[.slice a0 L.length c0,.int .i64 mx] w (SrEnd w (Pl.sRead mx 0 L)):=by
 have HD:=Lib.hid hd
 have HB:=Lib.hid hb
 clear hd hb
 go_enter Tryz.func7,Tryz.ntmps7
 go_wp2_with fail
 go_loopw [0,4,6] (fun s l x wr => ∃(L':List Int) (a':Option Addr) (c':Nat) (rs:List Rs) (o:Int),s = .slice a' L'.length c'∧RdB w (.slice a' L'.length c') L'∧Bs L'∧x = .int .u32 o∧0≤o∧SrL w l rs wr∧rs.length+L'.length≤L.length∧Pl.sRead mx 0 L=(rs++(Pl.sRead mx o L').1,(Pl.sRead mx o L').2)) (fun s _ _ _=>match s with | .slice _ m _=>m|_=>0)
 case atStart=>exact ⟨L,a0,c0,[],0,rfl,HD.out,HB.out,rfl,by omega,⟨⟨[],World.ownsRow_nil _ _ _ _,.nil⟩,Fresh.nil _,Below.refl _ _⟩,by simp,rfl⟩
 case round =>
   obtain ⟨L',a',c',rs,o,rfl,hr',hb',rfl,ho0,hS,hlen,heq⟩:=hrel
   obtain ⟨xs,hrow,hall⟩:=hS.row
   obtain ⟨la,lc,rfl,hlc,hlm⟩:=own_shape hrow
   obtain ⟨-,hnc,hcm⟩:=hr'.len
   have hrl:rs.length≤16777216:=by omega
   have hLl:L'.length≤16777216:=by omega
   have HEQ:=Lib.hid heq
   have HS:=Lib.hid hS
   have HA:=Lib.hid hall
   have HR:=Lib.hid hr'
   have HB':=Lib.hid hb'
   clear hS hall hr' hb' heq HD HB
   by_cases h9:L'.length<9
   · have hst:Pl.sStep mx o L' = .stop [cutOff L'] true:=by unfold Pl.sStep;rw [if_pos h9]
     have hx:Pl.sRead mx 0 L=(rs ++ [cutOff L'],true):=by rw [HEQ.out,Pl.sRead_stop hst]
     by_cases h0:L'.length=0
     · have e:cutOff L' = .bad 1 0 0:=by unfold cutOff;rw [if_pos h0]
       rw [e] at hx
       have HX:=Lib.hid hx
       have hq:((L'.length:Int)==0)=true:=beq_iff_eq.2 (by omega)
       clear hx hst e h0
       go_wp2_with (at_builtin;refine wpList_app ERs rfl _ _ rfl (.slice la rs.length lc) rs.length xs rfl (own_alloc hrow _) 1 _ (src_of_block Tryz.underlying23 (blk_new _ _) rfl (by simp [Value.oneCell'])) (by omega) (by unfold maxLen;omega) ?_;intro a2 c2 w3 hrow3 hg3 ht3)
       go_ret2
       exact SrL.fin (SrL.bad hrow HS.out HA.out (Below.refl _ _) hg3 ht3 hrow3) HX.out
     · have e:cutOff L' = .bad 2 0 0:=by unfold cutOff;rw [if_neg h0]
       rw [e] at hx
       have HX:=Lib.hid hx
       have hq:((L'.length:Int)==0)=false:=beq_false_of_ne (by omega)
       clear hx hst e h0
       go_wp2_with (at_builtin;refine wpList_app ERs rfl _ _ rfl (.slice la rs.length lc) rs.length xs rfl (own_alloc hrow _) 1 _ (src_of_block Tryz.underlying23 (blk_new _ _) rfl (by simp [Value.oneCell'])) (by omega) (by unfold maxLen;omega) ?_;intro a2 c2 w3 hrow3 hg3 ht3)
       go_ret2
       exact SrL.fin (SrL.bad hrow HS.out HA.out (Below.refl _ _) hg3 ht3 hrow3) HX.out
   · obtain ⟨ty,fl,ln,st,hhe⟩:∃ty fl ln st,hdOf L'=⟨ty,fl,ln,st⟩:=⟨_,_,_,_,rfl⟩
     have hh:=fun (W:World) (h:Below w.heap.size w W)=>headerS_any a' L'.length c' L' W (HR.out.below h) HB'.out (by omega)
     have hbd:=Pl.hdOf_bd (b:=L') HB'.out
     rw [hhe] at hh hbd
     obtain ⟨⟨t0,t1⟩,⟨f0,f1⟩,⟨l0,l1⟩,⟨s0,s1⟩⟩:=hbd
     simp only at hh t0 t1 f0 f1 l0 l1 s0 s1
     have HHE:=Lib.hid hhe
     have HH:=Lib.hid hh
     clear hh hhe
     have BA:Below wr.heap.size wr (wr.alloc (.cells #[.int .i64 0,.int .i64 0,.int .u32 0,.int .i64 0,.slice none 0 0,.int .u32 0,.int .u32 0,.int .u32 0,.int .u32 0,.bool false,.bool false,.int .u32 0,.int .i64 0,.slice none 0 0] 29)):=((Kept.refl (· < wr.heap.size) wr).alloc _).below (Nat.le_refl _)
     go_upto_region 8 with (go_at_call 22;refine (HH.out _ (Below.step' HS.out.B BA)).mono ?_;rintro e w2 ⟨rfl,nd,rfl⟩)
     have hF8:((((((wr.alloc (.cells #[.int .i64 0,.int .i64 0,.int .u32 0,.int .i64 0,.slice none 0 0,.int .u32 0,.int .u32 0,.int .u32 0,.int .u32 0,.bool false,.bool false,.int .u32 0,.int .i64 0,.slice none 0 0] 29)).drewN nd).setCell ⟨wr.heap.size,3,none⟩ (.int .i64 ln)).setCell ⟨wr.heap.size,0,none⟩ (.int .i64 ty)).setCell ⟨wr.heap.size,1,none⟩ (.int .i64 fl)).setCell ⟨wr.heap.size,2,none⟩ (.int .u32 st)).heap[wr.heap.size]? = some (.cells (frX (Fr.of ⟨ty,fl,ln,st⟩) (.slice none 0 0) (.slice none 0 0)) 29 (0,0)):=blkEqS (blk_set (blk_set (blk_set (blk_set (show ((wr.alloc (.cells #[.int .i64 0,.int .i64 0,.int .u32 0,.int .i64 0,.slice none 0 0,.int .u32 0,.int .u32 0,.int .u32 0,.int .u32 0,.bool false,.bool false,.int .u32 0,.int .i64 0,.slice none 0 0] 29)).drewN nd).heap[wr.heap.size]? = _ from blk_new wr _) 3 _) 0 _) 1 _) 2 _) rfl
     have b8:Below wr.heap.size wr ((((((wr.alloc (.cells #[.int .i64 0,.int .i64 0,.int .u32 0,.int .i64 0,.slice none 0 0,.int .u32 0,.int .u32 0,.int .u32 0,.int .u32 0,.bool false,.bool false,.int .u32 0,.int .i64 0,.slice none 0 0] 29)).drewN nd).setCell ⟨wr.heap.size,3,none⟩ (.int .i64 ln)).setCell ⟨wr.heap.size,0,none⟩ (.int .i64 ty)).setCell ⟨wr.heap.size,1,none⟩ (.int .i64 fl)).setCell ⟨wr.heap.size,2,none⟩ (.int .u32 st)):=((((show Below wr.heap.size wr ((wr.alloc (.cells #[.int .i64 0,.int .i64 0,.int .u32 0,.int .i64 0,.slice none 0 0,.int .u32 0,.int .u32 0,.int .u32 0,.int .u32 0,.bool false,.bool false,.int .u32 0,.int .i64 0,.slice none 0 0] 29)).drewN nd) from ⟨BA.os,BA.tape,BA.output,BA.size,BA.block⟩).setCell (Nat.le_refl _) _).setCell (Nat.le_refl _) _).setCell (Nat.le_refl _) _).setCell (Nat.le_refl _) _
     obtain ⟨w8,hw8⟩:∃w8,(((((wr.alloc (.cells #[.int .i64 0,.int .i64 0,.int .u32 0,.int .i64 0,.slice none 0 0,.int .u32 0,.int .u32 0,.int .u32 0,.int .u32 0,.bool false,.bool false,.int .u32 0,.int .i64 0,.slice none 0 0] 29)).drewN nd).setCell ⟨wr.heap.size,3,none⟩ (.int .i64 ln)).setCell ⟨wr.heap.size,0,none⟩ (.int .i64 ty)).setCell ⟨wr.heap.size,1,none⟩ (.int .i64 fl)).setCell ⟨wr.heap.size,2,none⟩ (.int .u32 st)=w8:=⟨_,rfl⟩
     rw [hw8] at hF8 b8 ⊢
     clear hw8 BA
     have d0:w8.cell? ⟨wr.heap.size,0,none⟩=some (.int .i64 ty):=blk_cell hF8 0
     have d1:w8.cell? ⟨wr.heap.size,1,none⟩=some (.int .i64 fl):=blk_cell hF8 1
     have d2:w8.cell? ⟨wr.heap.size,2,none⟩=some (.int .u32 st):=blk_cell hF8 2
     have d3:w8.cell? ⟨wr.heap.size,3,none⟩=some (.int .i64 ln):=blk_cell hF8 3
     have HF8:=Lib.hid hF8
     have hrow8:=own_below hrow b8
     clear hF8
     obtain ⟨q,hq⟩:∃q,ordBad o ⟨ty,fl,ln,st⟩=q:=⟨_,rfl⟩
     have HQ:=Lib.hid hq
     clear hq
     go_cut [8] from 10 to 161 (fun v wc=>v = .bool q∧w8=wc)
     case first =>
       by_cases ho:o=0
       · have ho1:(o != 0)=false:=by simpa using ho
         by_cases ht:ty=9
         · have hq':q=true:=by rw [←HQ.out];unfold ordBad;rw [if_pos ho];exact decide_eq_true ht
           have ht1:(ty==9)=true:=by simpa using ht
           clear ho ht
           go_wp2
           go_meet
           case rel=>exact ⟨by rw [hq'],rfl⟩
         · have hq':q=false:=by rw [←HQ.out];unfold ordBad;rw [if_pos ho];exact decide_eq_false ht
           have ht1:(ty==9)=false:=by simpa using ht
           have HO:=Lib.hid ho
           clear ho ht
           rcases (show (o != st)=true∨(o != st)=false by cases (o != st)<;>simp) with hs|hs
           all_goals
             go_wp2
             go_meet
             case rel=>exact ⟨by rw [hq'],rfl⟩
       · have ho1:(o != 0)=true:=by simpa using ho
         by_cases ht:ty=9
         · have ht1:(ty==9)=true:=by simpa using ht
           by_cases hs:st=o
           · have hq':q=false:=by rw [←HQ.out];unfold ordBad;rw [if_neg ho];simp [ht,hs]
             have hs1:(o != st)=false:=by simpa using hs.symm
             clear ho ht hs
             go_wp2
             go_meet
             case rel=>exact ⟨by rw [hq'],rfl⟩
           · have hq':q=true:=by rw [←HQ.out];unfold ordBad;rw [if_neg ho];simp [ht,hs]
             have hs1:(o != st)=true:=by simpa using fun e=>hs e.symm
             clear ho ht hs
             go_wp2
             go_meet
             case rel=>exact ⟨by rw [hq'],rfl⟩
         · have hq':q=true:=by rw [←HQ.out];unfold ordBad;rw [if_neg ho];simp [ht]
           have ht1:(ty==9)=false:=by simpa using ht
           clear ho ht
           go_wp2
           go_meet
           case rel=>exact ⟨by rw [hq'],rfl⟩
     case rest =>
       obtain ⟨rfl,rfl⟩:=hcut
       by_cases hbig:0<mx∧mx<ln
       · obtain ⟨hm,hlt⟩:=hbig
         cases q with
         | true =>
           have hst:Pl.sStep mx o L' = .stop [.bad 7 0 0] false:=by unfold Pl.sStep;rw [if_neg h9,HHE.out,if_pos ⟨hm,hlt⟩,if_pos HQ.out]
           have HX:Hid (Pl.sRead mx 0 L=(rs ++ [.bad 7 0 0],false)):=Lib.hid (by rw [HEQ.out,Pl.sRead_stop hst])
           clear hst
           go_wp2_with (at_builtin;refine wpList_app ERs rfl _ _ rfl (.slice la rs.length lc) rs.length xs rfl (own_alloc hrow8 _) 1 _ (src_of_block Tryz.underlying23 (blk_new _ _) rfl (by simp [Value.oneCell'])) (by omega) (by unfold maxLen;omega) ?_;intro a2 c2 w3 hrow3 hg3 ht3)
           go_ret2
           exact SrL.fin (SrL.bad hrow HS.out HA.out b8 hg3 ht3 hrow3) HX.out
         | false =>
           have hst:Pl.sStep mx o L' = .stop [.bad 3 0 0] true:=by unfold Pl.sStep;rw [if_neg h9,HHE.out,if_pos ⟨hm,hlt⟩,if_neg (by rw [HQ.out];simp)]
           have HX:Hid (Pl.sRead mx 0 L=(rs ++ [.bad 3 0 0],true)):=Lib.hid (by rw [HEQ.out,Pl.sRead_stop hst])
           clear hst
           go_wp2_with (at_builtin;refine wpList_app ERs rfl _ _ rfl (.slice la rs.length lc) rs.length xs rfl (own_alloc hrow8 _) 1 _ (src_of_block Tryz.underlying23 (blk_new _ _) rfl (by simp [Value.oneCell'])) (by omega) (by unfold maxLen;omega) ?_;intro a2 c2 w3 hrow3 hg3 ht3)
           go_ret2
           exact SrL.fin (SrL.bad hrow HS.out HA.out b8 hg3 ht3 hrow3) HX.out
       · go_upto_region 9 with (fail)
         go_cut [58] from 10 to 161 (fun v wc=>v = .bool false∧w8=wc)
         case first =>
           by_cases hm:0<mx
           · have hlt:¬mx<ln:=fun h=>hbig ⟨hm,h⟩
             clear hbig
             go_wp2
             go_meet
             case rel=>exact ⟨rfl,rfl⟩
           · clear hbig
             go_wp2
             go_meet
             case rel=>exact ⟨rfl,rfl⟩
         case rest =>
           obtain ⟨rfl,rfl⟩:=hcut
           by_cases hsh:(L'.length:Int)<9+ln
           · have hst:Pl.sStep mx o L' = .stop [.bad 7 0 0] false:=by unfold Pl.sStep;rw [if_neg h9,HHE.out,if_neg hbig,if_pos (by rw [List.length_drop];show ((L'.length-9:Nat):Int)<ln;omega)]
             have HX:Hid (Pl.sRead mx 0 L=(rs ++ [.bad 7 0 0],false)):=Lib.hid (by rw [HEQ.out,Pl.sRead_stop hst])
             clear hst hbig
             go_wp2_with (at_builtin;refine wpList_app ERs rfl _ _ rfl (.slice la rs.length lc) rs.length xs rfl (own_alloc hrow8 _) 1 _ (src_of_block Tryz.underlying23 (blk_new _ _) rfl (by simp [Value.oneCell'])) (by omega) (by unfold maxLen;omega) ?_;intro a2 c2 w3 hrow3 hg3 ht3)
             go_ret2
             exact SrL.fin (SrL.bad hrow HS.out HA.out b8 hg3 ht3 hrow3) HX.out
           · obtain ⟨k,rfl⟩:∃k:Nat,ln=(k:Int):=⟨ln.toNat,by omega⟩
             have hkl:9+k≤L'.length:=by omega
             obtain ⟨aP,cP,hsP,hrP,-⟩:=slice_mid HR.out E5.sl E5s (n:=9) (m:=9+k) (by omega) hkl
             obtain ⟨vN,hsN,hrN,-⟩:=slice_from HR.out E5.sl E5s (n:=9+k) hkl
             obtain ⟨aN,cN,rfl,-,-,-⟩:=id hrN
             have hNl:(L'.drop (9+k)).length=L'.length-(9+k):=List.length_drop
             have eP:(L'.take (9+k)).drop 9=(L'.drop 9).take k:=by rw [List.drop_take];congr 1;omega
             rw [eP,show 9+k-9=k by omega] at hrP
             rw [show 9+k-9=k by omega] at hsP
             have e9:((9+k:Nat):Int)=9+(k:Int):=by omega
             rw [e9] at hsP hsN
             rw [hNl] at hsN hrN
             replace hsP:∀w,(Instr.slice 22 (.slice a' L'.length c') (some (.int .i64 9)) (some (.int .i64 (9+(k:Int)))) none).run Tryz.prog w = .ok (.slice aP k cP) w:=hsP
             have hpay:Hid (∀W,Below w.heap.size w W→Calls Tryz.prog 23 #[.agg (frX (Fr.of ⟨ty,fl,(k:Int),st⟩) (.slice none 0 0) (.slice none 0 0)),.slice aP k cP] W (SpEnd w W (Pl.sPayload ⟨ty,fl,k,st⟩ ((L'.drop 9).take k)))):=Lib.hid fun W h=>payload_any ty fl k st t0 t1 f0 f1 (by omega) hrP h ((HB'.out.drop 9).take k)
             have hstep:Pl.sStep mx o L'=Pl.sAfter o ⟨ty,fl,k,st⟩ (Pl.sPayload ⟨ty,fl,k,st⟩ ((L'.drop 9).take k)) (L'.drop (9+k)):=by
               unfold Pl.sStep
               rw [if_neg h9,HHE.out,if_neg hbig,if_neg (by rw [List.length_drop];show ¬((L'.length-9:Nat):Int)<k;omega)]
               show Pl.sAfter o _ (Pl.sPayload _ ((L'.drop 9).take ((k:Int).toNat))) ((L'.drop 9).drop ((k:Int).toNat))=_
               rw [Int.toNat_natCast,List.drop_drop]
             generalize Pl.sPayload ⟨ty,fl,k,st⟩ ((L'.drop 9).take k)=r at *
             have HST:=Lib.hid hstep
             have HRN:=Lib.hid hrN
             have HNL:=Lib.hid hNl
             have hw9:IntKind.i64.wrap (9+(k:Int))=9+k:=IntWalk.i64_in _ ⟨by omega,by omega⟩
             have HBIG:=Lib.hid hbig
             clear hstep hrN hNl e9 eP hrP hbig
             go_upto_region 15 with (fail)
             go_cut [9] from 10 to 161 (fun v wc=>RdCut w w8 wr.heap.size (Fr.of ⟨ty,fl,k,st⟩) r v wc)
             case first =>
               refine wp_region_held_drew (S:=fun w'=>w'.heap[wr.heap.size]? = some (.cells (frX (Fr.of ⟨ty,fl,(k:Int),st⟩) (.slice none 0 0) (.slice none 0 0)) 29 (0,0))) (by kernel_rfl) HF8.out (fun hHeld => ?_)
               refine tkLr 0 (.agg (frX (Fr.of ⟨ty,fl,(k:Int),st⟩) (.slice none 0 0) (.slice none 0 0))) ?_ ?_
               · intro w' hSw;exact exec_load_at _ _ rfl wr.heap.size 0 rfl (frX (Fr.of ⟨ty,fl,(k:Int),st⟩) (.slice none 0 0) (.slice none 0 0)) (fun j v hj=>by rw [Nat.zero_add,blk_cell hSw];exact hj) Tryz.underlying29 (infoFsX _ _ _)
               try simp only [Act.put,sxA,sxB,sxC]
               refine tkSr 1 (.slice a' L'.length c') ?_;try simp only [Act.put,sxA,sxB,sxC]
               refine tkSr 2 (.pointer (some ⟨wr.heap.size,3,none⟩)) ?_;try simp only [Act.put,sxA,sxB,sxC]
               refine tkLr 3 (.int .i64 (k:Int)) ?_ ?_
               · intro w' hSw;have hc:w'.cell? ⟨wr.heap.size,3,none⟩=some (.int .i64 (k:Int)):=blk_cell hSw 3;clear hSw;go_simp
               try simp only [Act.put,sxA,sxB,sxC]
               refine tkSr 4 (.int .i64 (9+(k:Int))) ?_;try simp only [Act.put,sxA,sxB,sxC]
               refine tkSr 5 (.slice aP k cP) ?_;try simp only [Act.put,sxA,sxB,sxC]
               refine wpAnyH_ready (rs:=[6,7]) (by kernel_rfl) (by simp) ?_
               refine AllReadyH.cons rfl (fun K' hK => ?_) (AllReadyH.cons rfl (fun K' hK => ?_) AllReadyH.nil)
               · go_simp
                 refine (hpay.out _ (Below.step' HS.out.B (Below.step' b8 ((Below.refl _ _).drew)))).mono ?_
                 rintro e w5 ⟨dv,sv,rfl,b5,hd5,hs5,hk5⟩
                 have hh5:=blk_below hHeld b5
                 obtain ⟨da,dc,rfl,-,-,-⟩:=id hd5
                 obtain ⟨sa,sc,rfl,-,-,-⟩:=id hs5
                 go_wp2_with fail
                 refine hK.out _ _ hh5 (fun hHeld5 => ?_)
                 clear hK K'
                 try simp only [Act.put,sxA,sxB,sxC]
                 refine wpAnyH_ready (rs:=[7]) (by kernel_rfl) (by simp) ?_
                 refine AllReadyH.cons rfl (fun K' hK => ?_) AllReadyH.nil
                 go_simp
                 refine hK.out _ _ (blk_alloc hh5) (fun hHeld7 => ?_)
                 clear hK K'
                 try simp only [Act.put,sxA,sxB,sxC]
                 refine wpAnyH_ready (rs:=[8]) (by kernel_rfl) (by simp) ?_
                 refine AllReadyH.cons rfl (fun K' hK => ?_) AllReadyH.nil
                 refine step_store_blk (o:=⟨none,.store 31 (.tmp 9) (.tmp 84),_,_,_,none⟩) rfl 31 _ _ rfl w5.heap.size rfl (rsX r (.slice da r.x.data.length dc) (.slice sa r.x.set.length sc)) rsZ rfl 31 (blk_new w5 _) (rsX_size _ _ _) (infoRX' _ _ _) (rsX_one _ _ _ _ _ _ _) ?_
                 intro w6 hb6 k6
                 refine hK.out _ _ (k6.at (Nat.ne_of_lt (lt_of_block hh5)) (blk_alloc hh5)) (fun hHeld8 => ?_)
                 clear hK K'
                 try simp only [Act.put,sxA,sxB,sxC]
                 refine wpAnyH_done (by kernel_rfl) ?_ _
                 go_wp2_with fail
                 go_meet
                 case rel =>
                   have b5':Below w8.heap.size w8 w5:=⟨b5.os,b5.tape,b5.output,b5.size,b5.block⟩
                   exact ⟨w5.heap.size,da,dc,sa,sc,b5'.size,rfl,hb6,hHeld8,(b5'.alloc b5'.size _).trans ((k6.mono fun j hj _=>Nat.ne_of_lt (Nat.lt_of_lt_of_le hj b5'.size)).below (b5'.alloc b5'.size _).size),hd5,hs5.kept (((Kept.refl (· < w5.heap.size) w5).alloc _).trans (k6.mono fun j hj _=>Nat.ne_of_lt hj)) (rdP_ltS hs5),hk5⟩
               · go_simp
                 refine hK.out _ _ (blk_alloc hHeld) (fun hHeld7 => ?_)
                 clear hK K'
                 try simp only [Act.put,sxA,sxB,sxC]
                 refine wpAnyH_ready (rs:=[6]) (by kernel_rfl) (by simp) ?_
                 refine AllReadyH.cons rfl (fun K' hK => ?_) AllReadyH.nil
                 go_simp
                 refine (hpay.out _ (Below.step' HS.out.B (Below.step' b8 (((Below.refl _ _).drew).alloc (Nat.le_refl _) _)))).mono ?_
                 rintro e w5 ⟨dv,sv,rfl,b5,hd5,hs5,hk5⟩
                 have hh5:=blk_below hHeld7 b5
                 obtain ⟨da,dc,rfl,-,-,-⟩:=id hd5
                 obtain ⟨sa,sc,rfl,-,-,-⟩:=id hs5
                 go_wp2_with fail
                 refine hK.out _ _ hh5 (fun hHeld5 => ?_)
                 clear hK K'
                 try simp only [Act.put,sxA,sxB,sxC]
                 refine wpAnyH_ready (rs:=[8]) (by kernel_rfl) (by simp) ?_
                 refine AllReadyH.cons rfl (fun K' hK => ?_) AllReadyH.nil
                 refine step_store_blk (o:=⟨none,.store 31 (.tmp 9) (.tmp 84),_,_,_,none⟩) rfl 31 _ _ rfl w8.heap.size rfl (rsX r (.slice da r.x.data.length dc) (.slice sa r.x.set.length sc)) rsZ rfl 31 (blk_below (blk_new w8.drew _) b5) (rsX_size _ _ _) (infoRX' _ _ _) (rsX_one _ _ _ _ _ _ _) ?_
                 intro w6 hb6 k6
                 refine hK.out _ _ (k6.at (Nat.ne_of_lt (lt_of_block hHeld)) hh5) (fun hHeld8 => ?_)
                 clear hK K'
                 try simp only [Act.put,sxA,sxB,sxC]
                 refine wpAnyH_done (by kernel_rfl) ?_ _
                 go_wp2_with fail
                 go_meet
                 case rel =>
                   have b5':Below w8.heap.size w8 w5:=Below.trans ((((Below.refl _ w8).drew).alloc (Nat.le_refl _) _)) (b5.mono (by simp))
                   exact ⟨w8.heap.size,da,dc,sa,sc,Nat.le_refl _,rfl,hb6,hHeld8,b5'.trans ((k6.mono fun j hj _=>Nat.ne_of_lt hj).below b5'.size),hd5,hs5.kept (k6.mono fun j hj _=>hj) (hk5.mono' fun j hj e=>by simp at hj;omega),hk5.mono' fun j hj=>by simp at hj;omega⟩
             case rest =>
               obtain ⟨RB,da,dc,sa,sc,hRle,rfl,hRB,hF9,b9,hdd,hss,hks⟩:=hcut
               have e0:wc.cell? ⟨RB,0,none⟩=some (.int .i64 r.f):=blk_cell hRB 0
               have g0:wc.cell? ⟨wr.heap.size,0,none⟩=some (.int .i64 ty):=blk_cell hF9 0
               have g1:wc.cell? ⟨wr.heap.size,1,none⟩=some (.int .i64 fl):=blk_cell hF9 1
               have g2:wc.cell? ⟨wr.heap.size,2,none⟩=some (.int .u32 st):=blk_cell hF9 2
               have g3:wc.cell? ⟨wr.heap.size,3,none⟩=some (.int .i64 (k:Int)):=blk_cell hF9 3
               have hrow9:=own_below hrow8 b9
               have b89:Below wr.heap.size wr wc:=Below.step' b8 b9
               have hneR:(Value.slice la rs.length lc).ownBlock≠some RB:=fun e=>by have:=own_lt hrow _ e;have:=b8.size;omega
               have hneF:(Value.slice la rs.length lc).ownBlock≠some wr.heap.size:=fun e=>by have:=own_lt hrow _ e;omega
               have HRB:=Lib.hid hRB
               have HDD:=Lib.hid hdd
               have HSS:=Lib.hid hss
               have HKS:=Lib.hid hks
               have hand:=i64_and4 fl f0 f1
               clear d0 d1 d2 d3 hRB hF9 hdd hss hks hpay
               go_upto_region 17 with (fail)
               by_cases h1:r.f<0
               · have HX:Hid (Pl.sRead mx 0 L=(rs,false)):=Lib.hid (by rw [HEQ.out,Pl.sRead_stop (HST.out.trans (by unfold Pl.sAfter;rw [if_pos h1])),List.append_nil])
                 go_wp2
                 go_ret2
                 exact SrL.fin (HS.out.below b89) HX.out
               cases q with
               | true =>
                 by_cases hf:r.f=0
                 · have HX:Hid (Pl.sRead mx 0 L=(rs ++ [.bad 4 1 0],true)):=Lib.hid (by rw [HEQ.out,Pl.sRead_stop (HST.out.trans (by unfold Pl.sAfter;rw [if_neg h1,if_pos HQ.out,if_pos hf]))])
                   have hf1:(r.f != 0)=false:=by simpa using hf
                   clear hf
                   go_wp2_with (first
                     | (go_at_call 24;refine (connS_any 1 _).mono ?_;rintro e w5 ⟨rfl,b5⟩;have hrow9':=own_below hrow9 b5)
                     | (refine wpList_bs_rs rfl _ rfl (rsX (.bad 4 1 0) (.slice none 0 0) (.slice none 0 0)) rfl (rsX_size _ _ _) ?_)
                     | (at_builtin;refine wpList_app ERs rfl _ _ rfl (.slice la rs.length lc) rs.length xs rfl (own_alloc hrow9' _) 1 _ (src_of_block Tryz.underlying23 (blk_new _ _) (rsX_size _ _ _) (rsX_one _ _ _ _ _ _ _)) (by omega) (by unfold maxLen;omega) ?_;intro a2 c2 w3 hrow3 hg3 ht3))
                   go_ret2
                   exact SrL.fin (SrL.bad hrow HS.out HA.out (Below.step' b89 b5) hg3 ht3 hrow3) HX.out
                 · have HX:Hid (Pl.sRead mx 0 L=(rs ++ [.bad 7 0 0],false)):=Lib.hid (by rw [HEQ.out,Pl.sRead_stop (HST.out.trans (by unfold Pl.sAfter;rw [if_neg h1,if_pos HQ.out,if_neg hf]))])
                   have hf1:(r.f != 0)=true:=by simpa using hf
                   clear hf
                   go_wp2_with (at_builtin;refine wpList_app ERs rfl _ _ rfl (.slice la rs.length lc) rs.length xs rfl (own_alloc hrow9 _) 1 _ (src_of_block Tryz.underlying23 (blk_new _ _) rfl (by simp [Value.oneCell'])) (by omega) (by unfold maxLen;omega) ?_;intro a2 c2 w3 hrow3 hg3 ht3)
                   go_ret2
                   exact SrL.fin (SrL.bad hrow HS.out HA.out b89 hg3 ht3 hrow3) HX.out
               | false =>
                 have hqf:¬ordBad o ⟨ty,fl,(k:Int),st⟩=true:=by rw [HQ.out];simp
                 by_cases h7:r.f=7
                 · have HX:Hid (Pl.sRead mx 0 L=(rs ++ [r],false)):=Lib.hid (by rw [HEQ.out,Pl.sRead_stop (HST.out.trans (by unfold Pl.sAfter;rw [if_neg h1,if_neg hqf,if_pos h7]))])
                   have hf7:(r.f==7)=true:=by simpa using h7
                   clear h7
                   go_wp2_with (first
                     | (refine wpList_load_blk rfl 31 _ rfl RB rfl (rsX r (.slice da r.x.data.length dc) (.slice sa r.x.set.length sc)) 31 HRB.out Tryz.underlying31 (infoRX' _ _ _) ?_)
                     | (refine wpList_bs_rs rfl _ rfl (rsX r (.slice da r.x.data.length dc) (.slice sa r.x.set.length sc)) rfl (rsX_size _ _ _) ?_)
                     | (at_builtin;refine wpList_app ERs rfl _ _ rfl (.slice la rs.length lc) rs.length xs rfl (own_alloc hrow9 _) 1 _ (src_of_block Tryz.underlying23 (blk_new _ _) (rsX_size _ _ _) (rsX_one _ _ _ _ _ _ _)) (by omega) (by unfold maxLen;omega) ?_;intro a2 c2 w3 hrow3 hg3 ht3;have e0':w3.cell? ⟨RB,0,none⟩=some (.int .i64 r.f):=cell_grown hg3 (cell_alloc e0 _) hneR;have g0':w3.cell? ⟨wr.heap.size,0,none⟩=some (.int .i64 ty):=cell_grown hg3 (cell_alloc g0 _) hneF;have g1':w3.cell? ⟨wr.heap.size,1,none⟩=some (.int .i64 fl):=cell_grown hg3 (cell_alloc g1 _) hneF;have g2':w3.cell? ⟨wr.heap.size,2,none⟩=some (.int .u32 st):=cell_grown hg3 (cell_alloc g2 _) hneF;have HL3:=Lib.hid (SrL.more hrow HS.out HA.out b89 b8.size hg3 ht3 hrow3 HDD.out HSS.out HKS.out);clear hrow3 hg3 ht3))
                   go_ret2
                   exact SrL.fin HL3.out HX.out
                 have hf7:(r.f==7)=false:=beq_false_of_ne h7
                 go_upto_region 26 with (first|(refine wpList_load_blk rfl 31 _ rfl RB rfl (rsX r (.slice da r.x.data.length dc) (.slice sa r.x.set.length sc)) 31 HRB.out Tryz.underlying31 (infoRX' _ _ _) ?_)|(refine wpList_bs_rs rfl _ rfl (rsX r (.slice da r.x.data.length dc) (.slice sa r.x.set.length sc)) rfl (rsX_size _ _ _) ?_)|(at_builtin;refine wpList_app ERs rfl _ _ rfl (.slice la rs.length lc) rs.length xs rfl (own_alloc hrow9 _) 1 _ (src_of_block Tryz.underlying23 (blk_new _ _) (rsX_size _ _ _) (rsX_one _ _ _ _ _ _ _)) (by omega) (by unfold maxLen;omega) ?_;intro a2 c2 w3 hrow3 hg3 ht3;have e0':w3.cell? ⟨RB,0,none⟩=some (.int .i64 r.f):=cell_grown hg3 (cell_alloc e0 _) hneR;have g0':w3.cell? ⟨wr.heap.size,0,none⟩=some (.int .i64 ty):=cell_grown hg3 (cell_alloc g0 _) hneF;have g1':w3.cell? ⟨wr.heap.size,1,none⟩=some (.int .i64 fl):=cell_grown hg3 (cell_alloc g1 _) hneF;have g2':w3.cell? ⟨wr.heap.size,2,none⟩=some (.int .u32 st):=cell_grown hg3 (cell_alloc g2 _) hneF;have HL3:=Lib.hid (SrL.more hrow HS.out HA.out b89 b8.size hg3 ht3 hrow3 HDD.out HSS.out HKS.out);clear hrow3 hg3 ht3))
                 by_cases h4:r.f=4
                 · have HX:Hid (Pl.sRead mx 0 L=(rs ++ [r],true)):=Lib.hid (by rw [HEQ.out,Pl.sRead_stop (HST.out.trans (by unfold Pl.sAfter;rw [if_neg h1,if_neg hqf,if_neg h7,if_pos h4]))])
                   have hf4:(r.f==4)=true:=by simpa using h4
                   clear h4 h7
                   go_wp2_with fail
                   go_ret2
                   exact SrL.fin HL3.out HX.out
                 have hf4:(r.f==4)=false:=beq_false_of_ne h4
                 go_upto_region 28 with (fail)
                 by_cases h5:r.f=0∧ty=5∧bitOf fl 4=false
                 · have HX:Hid (Pl.sRead mx 0 L=(rs ++ [r],false)):=Lib.hid (by rw [HEQ.out,Pl.sRead_stop (HST.out.trans (by unfold Pl.sAfter;rw [if_neg h1,if_neg hqf,if_neg h7,if_neg h4,if_pos h5]))])
                   obtain ⟨h50,h55,h5b⟩:=h5
                   rw [h5b] at hand
                   have hf0:(r.f==0)=true:=by simpa using h50
                   have ht5:(ty==5)=true:=by simpa using h55
                   clear h50 h55 h5b h4 h7
                   go_wp2_with fail
                   go_ret2
                   exact SrL.fin HL3.out HX.out
                 have HGO:Hid (∀o',o'=(if r.f=0 then nextO o ⟨ty,fl,(k:Int),st⟩ else o)→Pl.sRead mx 0 L=((rs ++ [r])++(Pl.sRead mx o' (L'.drop (9+k))).1,(Pl.sRead mx o' (L'.drop (9+k))).2)):=Lib.hid fun o' ho'=>by
                   rw [HEQ.out,Pl.sRead_go (HST.out.trans (by unfold Pl.sAfter;rw [if_neg h1,if_neg hqf,if_neg h7,if_neg h4,if_neg h5]))]
                   subst ho'
                   simp
                 have H5:=Lib.hid h5
                 clear h5 h4 h7 hqf
                 rcases (show (r.f==0)=true∨(r.f==0)=false by cases (r.f==0)<;>simp) with hf0|hf0
                 · have hr0:r.f=0:=by simpa using hf0
                   have HR0:=Lib.hid hr0
                   clear hr0
                   by_cases ht19:ty=1∨ty=9
                   · have htt:(ty==5)=false∧((ty==1)=true∨(ty==1)=false∧(ty==9)=true):=by rcases ht19 with rfl|rfl<;>simp
                     obtain ⟨ht5,htt⟩:=htt
                     have HT:=Lib.hid ht19
                     clear ht19
                     cases hb4:bitOf fl 4 with
                     | true =>
                       rw [hb4] at hand
                       have HB4:=Lib.hid hb4
                       clear hb4
                       rcases htt with ht1|⟨ht1,ht9⟩
                       all_goals
                         go_wp2_with fail
                         go_roundw
                         case rel=>exact ⟨L'.drop (9+k),aN,cN,rs ++ [r],0,by rw [HNL.out],by rw [HNL.out];exact HRN.out,HB'.out.drop _,rfl,Int.le_refl _,HL3.out,by rw [List.length_append,HNL.out];simp;omega,HGO.out 0 (by rw [if_pos HR0.out];unfold nextO;rw [if_pos HT.out,if_pos HB4.out])⟩
                         case measure=>simp;omega
                     | false =>
                       rw [hb4] at hand
                       have HB4:=Lib.hid hb4
                       clear hb4
                       rcases htt with ht1|⟨ht1,ht9⟩
                       all_goals
                         go_wp2_with fail
                         go_roundw
                         case rel=>exact ⟨L'.drop (9+k),aN,cN,rs ++ [r],st,by rw [HNL.out],by rw [HNL.out];exact HRN.out,HB'.out.drop _,rfl,s0,HL3.out,by rw [List.length_append,HNL.out];simp;omega,HGO.out st (by rw [if_pos HR0.out];unfold nextO;rw [if_pos HT.out,if_neg (by rw [HB4.out];simp)])⟩
                         case measure=>simp;omega
                   · have ht1:(ty==1)=false:=beq_false_of_ne fun e=>ht19 (.inl e)
                     have ht9:(ty==9)=false:=beq_false_of_ne fun e=>ht19 (.inr e)
                     have HT:=Lib.hid ht19
                     clear ht19
                     rcases (show (ty==5)=true∨(ty==5)=false by cases (ty==5)<;>simp) with ht5|ht5
                     · have hb4:bitOf fl 4=true:=by
                         cases hb:bitOf fl 4 with
                         | true=>rfl
                         | false=>exact absurd ⟨HR0.out,by simpa using ht5,hb⟩ H5.out
                       rw [hb4] at hand
                       clear hb4
                       go_wp2_with fail
                       go_roundw
                       case rel=>exact ⟨L'.drop (9+k),aN,cN,rs ++ [r],o,by rw [HNL.out],by rw [HNL.out];exact HRN.out,HB'.out.drop _,rfl,ho0,HL3.out,by rw [List.length_append,HNL.out];simp;omega,HGO.out o (by rw [if_pos HR0.out];unfold nextO;rw [if_neg HT.out])⟩
                       case measure=>simp;omega
                     · go_wp2_with fail
                       go_roundw
                       case rel=>exact ⟨L'.drop (9+k),aN,cN,rs ++ [r],o,by rw [HNL.out],by rw [HNL.out];exact HRN.out,HB'.out.drop _,rfl,ho0,HL3.out,by rw [List.length_append,HNL.out];simp;omega,HGO.out o (by rw [if_pos HR0.out];unfold nextO;rw [if_neg HT.out])⟩
                       case measure=>simp;omega
                 · have hr0:¬r.f=0:=by simpa using hf0
                   have HR0:=Lib.hid hr0
                   clear hr0
                   go_wp2_with fail
                   go_roundw
                   case rel=>exact ⟨L'.drop (9+k),aN,cN,rs ++ [r],o,by rw [HNL.out],by rw [HNL.out];exact HRN.out,HB'.out.drop _,rfl,ho0,HL3.out,by rw [List.length_append,HNL.out];simp;omega,HGO.out o (by rw [if_neg HR0.out])⟩
                   case measure=>simp;omega
end Go.Proofs.YtfdlbjibninakaaGreatDoor

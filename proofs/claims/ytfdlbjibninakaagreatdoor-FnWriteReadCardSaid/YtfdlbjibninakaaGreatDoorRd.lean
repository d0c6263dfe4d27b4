/- Reading: the reader of the thin package. Its Read hands out the next piece of its data into a row of bytes. -/
import Derived.Test.YtfdlbjibninakaaGreatDoorBase
import Derived.BigQuiet
import Derived.Deep.QuietTactic
import Derived.Deep.RegionHeld3
import Derived.WalkLawsBesides
import Derived.Outline
import Derived.Deep.RegionLaw
set_option linter.unusedVariables false
set_option linter.unusedSimpArgs false
namespace Go.Proofs.YtfdlbjibninakaaGreatDoor
set_option maxRecDepth 10000
set_option maxHeartbeats 4000000
open Go.RowKit
structure Filled (cs0:Array Value) (off:Nat) (l:List Int) (cs:Array Value):Prop where
 size:cs.size=cs0.size
 at':∀j x,l[j]? = some x→cs[off+j]? = some (.int .u8 x)
 rest:∀j,(j<off∨off+l.length≤j)→cs[j]? = cs0[j]?
theorem Filled.nil (cs0:Array Value) (off:Nat):Filled cs0 off [] cs0:=⟨rfl,fun j x h=>by simp at h,fun _ _=>rfl⟩
theorem Filled.app {cs0 cs1 cs2:Array Value} {off off2:Nat} {l k:List Int} (h:Filled cs0 off l cs1) (g:Filled cs1 off2 k cs2) (e:off2=off+l.length):Filled cs0 off (l++k) cs2:=by
 subst e
 refine ⟨g.size.trans h.size,fun j x hj => ?_,fun j hj => ?_⟩
 · rw [List.getElem?_append] at hj
   split at hj
   · rename_i hlt
     rw [g.rest _ (.inl (by omega))]
     exact h.at' j x hj
   · rename_i hge
     have:=g.at' _ x hj
     rwa [show off+l.length+(j-l.length)=off+j by omega] at this
 · rw [List.length_append] at hj
   rw [g.rest j (by omega),h.rest j (by omega)]
theorem Filled.mk' {cs0:Array Value} {off:Nat} {l:List Int} (h:off+l.length≤cs0.size):Filled cs0 off l (cs0.toList.take off++(bv l++cs0.toList.drop (off+l.length))).toArray:=by
 refine ⟨?_,fun j x hj => ?_,fun j hj => ?_⟩
 · simp;omega
 · have hlt:=(List.getElem?_eq_some_iff.1 hj).1
   rw [List.getElem?_toArray,List.getElem?_append_right (by simp;omega),List.getElem?_append_left (by simp;omega)]
   simp only [List.length_take,Array.length_toList]
   rw [show off+j-min off cs0.size=j by omega]
   simp [bv,hj]
 · rw [List.getElem?_toArray]
   rcases hj with hj|hj
   · rw [List.getElem?_append_left (by simp;omega),List.getElem?_take,if_pos hj];simp
   · rw [List.getElem?_append_right (by simp;omega),List.getElem?_append_right (by simp;omega)]
     simp only [List.length_take,Array.length_toList,bv_length,List.getElem?_drop]
     rw [show off+l.length+(j-min off cs0.size-l.length)=j by omega]
     simp
theorem Kept.drawn {K:Nat→Prop} {w w':World} (h:Kept K w w') (n:Nat):Kept K w (w'.drewN n):=⟨h.os,h.tape,h.output,h.size,h.block⟩
theorem run_copy_rd (w:World) (ty g off n cap m:Nat) (sv:Value) (l:List Int) (cs:Array Value) (t:TypeId) (hg:w.heap[g]? = some (.cells cs t (0,0))) (hs:RdB w sv l) (hm:m=min l.length n) (hfit:off+n≤cs.size) :
   ∃cs' w',(Builtin.copy_ #[22,22] ty #[.slice (some ⟨g,off,none⟩) n cap,sv]).run Tryz.prog w = .ok (.int .i64 (m:Int)) w'∧w'.heap[g]? = some (.cells cs' t (0,0))∧Filled cs off (l.take m) cs'∧Kept (· ≠ g) w w':=by
 obtain ⟨i,hi,hz,hsize,hby⟩:=info_parts E5.info
 obtain ⟨a,c,rfl,h1,h2,h3⟩:=hs
 have hsz:(Tryz.prog.info? 5).map (·.size)=some 1:=by rw [hi];simp [hsize]
 have hlen:(l.take m).length=m:=by rw [List.length_take];omega
 by_cases h0:m=0
 · subst h0
   exact ⟨cs,w,run_copy_none (P:=Tryz.prog) w _ _ ty 5 _ _ n cap l.length c E5.sl hsz (by show min _ _=0;omega),hg,by simpa using Filled.nil cs off,Kept.refl _ _⟩
 · have hl0:0<l.length:=by omega
   obtain ⟨b,o,rfl,_⟩:=h3 0 (l[0]) (by simp [hl0])
   have hrun:=run_copy_row (P:=Tryz.prog) w 22 22 ty 5 g off n cap ⟨b,o,none⟩ l.length c cs t (bv (l.take m)) E5.sl hsz hg (by show _=min _ _;simp;omega) (fun j v hj=>by
     simp only [bv,List.getElem?_map] at hj
     cases hj':(l.take m)[j]? with
     | none=>simp [hj'] at hj
     | some x =>
       simp [hj'] at hj
       rw [List.getElem?_take] at hj'
       split at hj'
       · obtain ⟨b',o',e,hc⟩:=h3 j x hj'
         cases e
         rw [Addr.add_lit,hc,hj]
       · cases hj') (by simp;omega) (bv_one _)
   have hl2:(bv (l.take m)).length=m:=by simp;omega
   rw [hl2] at hrun
   refine ⟨_,_,hrun,setRow_heap w g cs _ t (0,0) hg,?_,⟨rfl,rfl,rfl,by simp,fun k hk _=>setRow_other w g k _ hk⟩⟩
   have:=Filled.mk' (cs0:=cs) (off:=off) (l:=l.take m) (by omega)
   rw [hlen] at this
   rwa [←List.append_assoc] at this
theorem slice_from {k:IntKind} {T e:Nat} {v:Value} {w:World} {l:List Int} (h:RdI k w v l) (hT:Tryz.prog.underlying T=some (.slice e)) (he:(Tryz.prog.info? e).map (·.size)=some 1) {n:Nat} (hn:n≤l.length) :
   ∃v',(∀w,(Instr.slice T v (some (.int .i64 (n:Int))) none none).run Tryz.prog w = .ok v' w)∧RdI k w v' (l.drop n) ∧ ∀K,inK K v→inK K v':=by
 obtain ⟨a,c,rfl,h1,h2,h3⟩:=h
 obtain ⟨i,hi,hs⟩:=Option.map_eq_some_iff.1 he
 refine ⟨.slice (if c=n then a else a.map (·.add n)) (l.length-n) (c-n),fun w => ?_,⟨_,_,by rw [List.length_drop],by rw [List.length_drop];omega,by omega,fun j x hj => ?_⟩,?_⟩
 · simp [Instr.slice,run_underlying hT,Instr.sliceBounds,Instr.sliceBound,asIntOf,sizeOf,typeInfo,hi,hs]
   omega
 · rw [List.getElem?_drop] at hj
   obtain ⟨b,o,rfl,hc⟩:=h3 _ x hj
   have:=(List.getElem?_eq_some_iff.1 hj).1
   rw [if_neg (by omega)]
   exact ⟨b,o+n,by simp [Addr.add_lit],by rwa [show o+n+j=o+(n+j) by omega]⟩
 · intro K hk
   cases a with
   | none=>simp [inK]
   | some a =>
     simp only [inK] at hk ⊢
     by_cases hcn:c=n
     · simp [hcn]
       rcases hk with hk|hk
       · left;omega
       · right;exact hk
     · simp [hcn]
       rcases hk with hk|hk
       · left;omega
       · right
         have:(a.add n).block=a.block:=by unfold Addr.add;split<;>rfl
         rwa [this]
structure RdS (w:World) (bR:Nat) (rest pcs:Value) (at':Nat) (L ps:List Int):Prop where
 R:w.heap[bR]? = some (.cells #[rest,pcs,.int .i64 at'] 71 (0,0))
 rest:RdB w rest L
 pcs:RdI .i64 w pcs ps
 lim:at'≤1000000000000
theorem read_end {w:World} {bR:Nat} {rest pcs:Value} {at':Nat} {ps:List Int} (h:RdS w bR rest pcs at' [] ps) {aE:Value} (hE:w.cell? ⟨0,0,none⟩=some aE) (p:Value) :
   Calls Tryz.prog 147 #[.pointer (some ⟨bR,0,none⟩),p] w fun e w'=>e = .returned (.tuple #[.int .i64 0,aE]) ∧ ∃n,w'=w.drewN n:=by
 obtain ⟨a,c,rfl,-,-,-⟩:=h.rest
 have hc:w.cell? ⟨bR,0,none⟩=some (.slice a 0 c):=blk_cell h.R 0
 go_enter Tryz.func147,Tryz.ntmps147
 go_wp2
 go_quiet (fail)
 go_wp2
 go_ret2
 exact ⟨rfl,_,rfl⟩
theorem step_copy_rd {w:World} {ops:Array Oper} {o:Oper} {a:Act} {Q:Exit→Act→World→Prop} {K:Act→World→Prop} {X:Prop} (hgd:o.guard=none) (d s:Operand) (ho:o.op = .call { callee:=.builtin .copy,args:=#[d,s],argTypes:=#[22,22] })
   (g off n cap m:Nat) (l:List Int) (cs:Array Value) (t:TypeId) (hd:a.eval d = .slice (some ⟨g,off,none⟩) n cap) (hs:RdB w (a.eval s) l) (hg:w.heap[g]? = some (.cells cs t (0,0))) (hm:m=min l.length n) (hfit:off+n≤cs.size)
   (h:∀cs' w',w'.heap[g]? = some (.cells cs' t (0,0))→Filled cs off (l.take m) cs'→Kept (· ≠ g) w w'→K (a.put o.dst (.int .i64 (m:Int))) w') :
   if Region.wanted o (yielded ops a.tmps)=true then Oper.wp Tryz.prog o a w K Q else X:=by
 rw [if_pos (by simp [Region.wanted,hgd])]
 obtain ⟨cs',w',hr,h1,h2,h3⟩:=run_copy_rd w o.type g off n cap m (a.eval s) l cs t hg hs hm hfit
 unfold Oper.wp execOp
 simp only [ho,resolve,invoke,builtin,Sem.run_bind,Sem.run_pure,Result.andThen_ok,List.map_toArray,List.map_cons,List.map_nil,hd,hr]
 exact h cs' w' h1 h2 h3
def ReadSome (w:World) (bR:Nat) (rest pcs:Value) (at':Nat) (L ps:List Int) (g off n:Nat) (cs:Array Value) (t:TypeId) (e:Ending) (w':World):Prop:=
 ∃(k at'':Nat) (rest':Value) (cs':Array Value),e = .returned (.tuple #[.int .i64 (k:Int),.nilIface])∧1≤k∧k≤n∧k≤L.length∧w'.heap[bR]? = some (.cells #[rest',pcs,.int .i64 at''] 71 (0,0))∧RdB w' rest' (L.drop k)∧RdI .i64 w' pcs ps ∧
   at''≤at'+1∧w'.heap[g]? = some (.cells cs' t (0,0))∧Filled cs off (L.take k) cs'∧Kept (fun b=>b≠bR∧b≠g) w w' ∧ ∀K,inK K rest→inK K rest'
theorem read_some0 {w:World} {bR:Nat} {rest pcs:Value} {at':Nat} {L:List Int} (h:RdS w bR rest pcs at' L []) (hL:0<L.length) (g off n cap:Nat) (cs:Array Value) (t:TypeId) (hg:w.heap[g]? = some (.cells cs t (0,0))) (hfit:off+n≤cs.size)
   (hn:0<n) (hnc:n≤cap) (hgR:g≠bR) (hKr:inK (fun b=>b≠bR∧b≠g) rest) (hKp:inK (fun b=>b≠bR∧b≠g) pcs) :
   Calls Tryz.prog 147 #[.pointer (some ⟨bR,0,none⟩),.slice (some ⟨g,off,none⟩) n cap] w (ReadSome w bR rest pcs at' L [] g off n cs t):=by
 obtain ⟨m,hm⟩:∃m,min L.length n=m:=⟨_,rfl⟩
 have hm1:1≤m∧m≤n∧m≤L.length:=by omega
 obtain ⟨rest',hsl,hrd',hin⟩:=slice_from (n:=m) h.rest E5.sl (by kernel_rfl) (by omega)
 have hrd:=h.rest
 have hrd2:=hrd'
 obtain ⟨ra,rc,rfl,-,-,-⟩:=hrd2
 rw [List.length_drop] at hsl
 obtain ⟨a,c,rfl,hc1,hc2,-⟩:=h.rest
 obtain ⟨pa,pc,rfl,-,-,-⟩:=h.pcs
 have c0:w.cell? ⟨bR,0,none⟩=some (.slice a L.length c):=blk_cell h.R 0
 have c1:w.cell? ⟨bR,1,none⟩=some (.slice pa 0 pc):=blk_cell h.R 1
 have hl0:((L.length:Int)==0)=false:=beq_false_of_ne (by omega)
 go_enter Tryz.func147,Tryz.ntmps147
 go_wp2
 go_region_law (refine step_copy_rd rfl (.tmp 50) (.tmp 54) rfl g off n cap m L cs t rfl hrd hg hm.symm hfit ?_;intro cs' w1 g1 g2 g3)
 have g4:Kept (· ≠ g) w w1:=((Kept.refl _ w).drew).trans g3
 have d0:=g4.at (Ne.symm hgR) h.R
 have d1:w1.cell? ⟨bR,0,none⟩=some (.slice a L.length c):=blk_cell d0 0
 have d2:w1.frozen? ⟨bR,0,none⟩=false:=blk_free d0 0
 go_wp2
 go_ret2
 have hk:Kept (fun b=>b≠bR∧b≠g) w (w1.setCell ⟨bR,0,none⟩ (.slice ra (L.length-m) rc)):=(g4.mono fun k h _=>h.2).setCell (fun h=>absurd rfl h.1) _
 rw [List.length_drop] at hrd' hin
 exact ⟨m,at',.slice ra (L.length-m) rc,cs',rfl,hm1.1,hm1.2.1,hm1.2.2,by simpa using blk_set d0 0 _,hrd'.kept hk (hin _ hKr),h.pcs.kept hk hKp,Nat.le_succ _,blk_set_other g1 hgR _,g2,hk,hin⟩
theorem read_some1 {w:World} {bR:Nat} {rest pcs:Value} {at':Nat} {L ps:List Int} (h:RdS w bR rest pcs at' L ps) (hL:0<L.length) (hps:0<ps.length) (g off n cap:Nat) (cs:Array Value) (t:TypeId) (hg:w.heap[g]? = some (.cells cs t (0,0))) (hfit:off+n≤cs.size)
   (hn:0<n) (hnc:n≤cap) (hgR:g≠bR) (hKr:inK (fun b=>b≠bR∧b≠g) rest) (hKp:inK (fun b=>b≠bR∧b≠g) pcs) :
   Calls Tryz.prog 147 #[.pointer (some ⟨bR,0,none⟩),.slice (some ⟨g,off,none⟩) n cap] w (ReadSome w bR rest pcs at' L ps g off n cs t):=by
 have hmod:at'%ps.length<ps.length:=Nat.mod_lt _ hps
 obtain ⟨x,hx⟩:∃x,ps[at'%ps.length]? = some x:=⟨_,List.getElem?_eq_getElem hmod⟩
 obtain ⟨q,hq1,hq⟩:∃q:Nat,(1≤q∧q≤n)∧(x≤1∧1<n∧q=1∨x≤1 ∧ ¬1<n∧q=n∨x=q∧1<x∧q<n ∨ ¬x<n∧1<x∧q=n):=by
   by_cases h1:x≤1
   · by_cases h2:1<n
     · exact ⟨1,by omega,.inl ⟨h1,h2,rfl⟩⟩
     · exact ⟨n,by omega,.inr (.inl ⟨h1,h2,rfl⟩)⟩
   · by_cases h2:x<n
     · exact ⟨x.toNat,by omega,.inr (.inr (.inl ⟨by omega,by omega,by omega⟩))⟩
     · exact ⟨n,by omega,.inr (.inr (.inr ⟨h2,by omega,rfl⟩))⟩
 obtain ⟨m,hm⟩:∃m,min L.length q=m:=⟨_,rfl⟩
 have hm1:1≤m∧m≤q∧m≤L.length:=by omega
 obtain ⟨rest',hsl,hrd',hin⟩:=slice_from (n:=m) h.rest E5.sl (by kernel_rfl) (by omega)
 have hrd:=h.rest
 have hrd2:=hrd'
 obtain ⟨ra,rc,rfl,-,-,-⟩:=hrd2
 rw [List.length_drop] at hsl
 obtain ⟨a,c,rfl,hc1,hc2,-⟩:=h.rest
 obtain ⟨pa,pc,rfl,hp1,hp2,hp3⟩:=h.pcs
 obtain ⟨pb,po,rfl,hpx⟩:=hp3 _ x hx
 clear hp3
 unfold maxLen at hc2 hp2
 have hlim:=h.lim
 have c0:w.cell? ⟨bR,0,none⟩=some (.slice a L.length c):=blk_cell h.R 0
 have c1:w.cell? ⟨bR,1,none⟩=some (.slice (some ⟨pb,po,none⟩) ps.length pc):=blk_cell h.R 1
 have c2:w.cell? ⟨bR,2,none⟩=some (.int .i64 (at':Int)):=blk_cell h.R 2
 have f2:w.frozen? ⟨bR,2,none⟩=false:=blk_free h.R 2
 have hl0:((L.length:Int)==0)=false:=beq_false_of_ne (by omega)
 have hmodI0:0≤(at':Int)%(ps.length:Int):=Int.emod_nonneg _ (by omega)
 have hmodI:(at':Int)%(ps.length:Int)<(ps.length:Int):=Int.emod_lt_of_pos _ (by omega)
 have hqc:q≤cap:=by omega
 have hqi:(1:Int)≤(cap:Int):=by omega
 rcases hq with ⟨hq,hq2,rfl⟩|⟨hq,hq2,rfl⟩|⟨rfl,hq,hq2⟩|⟨hq,hq2,rfl⟩
 all_goals
   go_enter Tryz.func147,Tryz.ntmps147
   go_wp2
   go_quiet (fail)
   go_wp2
   have k1:Kept (· ≠ bR) w ((w.drewN nq).setCell ⟨bR,2,none⟩ (.int .i64 ((at':Int)+1))):=((Kept.refl _ w).drawn _).setCell (fun h=>absurd rfl h) _
   have R1:((w.drewN nq).setCell ⟨bR,2,none⟩ (.int .i64 ((at':Int)+1))).heap[bR]? = _:=blk_set (show (w.drewN nq).heap[bR]? = _ from h.R) 2 _
   generalize (w.drewN nq).setCell ⟨bR,2,none⟩ (.int .i64 ((at':Int)+1))=w2 at k1 R1 ⊢
   have hrd2:=hrd.kept (k1.mono (K':=fun b=>b≠bR∧b≠g) fun k h _=>h.1) hKr
   have hg2:=k1.at hgR hg
   have e0:w2.cell? ⟨bR,0,none⟩=some (.slice a L.length c):=blk_cell R1 0
   go_region_law (refine step_copy_rd rfl (.tmp 50) (.tmp 54) rfl g off _ cap m L cs t rfl hrd2 hg2 hm.symm (by omega) ?_;intro cs' w1 g1 g2 g3)
   have g4:Kept (· ≠ g) w2 w1:=((Kept.refl _ w2).drew).trans g3
   have d0:=g4.at (Ne.symm hgR) R1
   have d1:w1.cell? ⟨bR,0,none⟩=some (.slice a L.length c):=blk_cell d0 0
   have d2:w1.frozen? ⟨bR,0,none⟩=false:=blk_free d0 0
   clear e0
   go_wp2
   go_ret2
   have hk:Kept (fun b=>b≠bR∧b≠g) w (w1.setCell ⟨bR,0,none⟩ (.slice ra (L.length-m) rc)):=((k1.mono fun k h _=>h.1).trans (g4.mono fun k h _=>h.2)).setCell (fun h=>absurd rfl h.1) _
   rw [List.length_drop] at hrd' hin
   exact ⟨m,at'+1,.slice ra (L.length-m) rc,cs',rfl,hm1.1,by omega,hm1.2.2,by simpa using blk_set d0 0 _,hrd'.kept hk (hin _ hKr),h.pcs.kept hk hKp,Nat.le_refl _,blk_set_other g1 hgR _,g2,hk,hin⟩
theorem read_some {w:World} {bR:Nat} {rest pcs:Value} {at':Nat} {L ps:List Int} (h:RdS w bR rest pcs at' L ps) (hL:0<L.length) (g off n cap:Nat) (cs:Array Value) (t:TypeId) (hg:w.heap[g]? = some (.cells cs t (0,0))) (hfit:off+n≤cs.size)
   (hn:0<n) (hnc:n≤cap) (hgR:g≠bR) (hKr:inK (fun b=>b≠bR∧b≠g) rest) (hKp:inK (fun b=>b≠bR∧b≠g) pcs) :
   Calls Tryz.prog 147 #[.pointer (some ⟨bR,0,none⟩),.slice (some ⟨g,off,none⟩) n cap] w (ReadSome w bR rest pcs at' L ps g off n cs t):=by
 cases ps with
 | nil=>exact read_some0 h hL g off n cap cs t hg hfit hn hnc hgR hKr hKp
 | cons p ps=>exact read_some1 h hL (by simp) g off n cap cs t hg hfit hn hnc hgR hKr hKp
end Go.Proofs.YtfdlbjibninakaaGreatDoor

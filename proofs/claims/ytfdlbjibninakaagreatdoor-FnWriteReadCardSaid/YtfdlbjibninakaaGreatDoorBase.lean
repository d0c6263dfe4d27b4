/- The plain model of reading: what the framer makes of a list of bytes. No program stands here. -/
import Derived.Test.YtfdlbjibninakaaGreatDoorProg
import Derived.WalkKit
import Derived.WalkSpells
import Derived.WalkLawsBesides
import Derived.Laws.EntriesVeiled
import Derived.Deep.AppendSrc
import Derived.Maps.AppendAt
import Derived.Lib.Hide
import Derived.OrdersHeld
import Derived.Laws.BitsAllLaws
set_option linter.unusedVariables false
set_option linter.unusedSimpArgs false
namespace Go.Proofs.YtfdlbjibninakaaGreatDoor
open Go.RowKit
structure Kept (K:Nat→Prop) (w w':World):Prop where
 os:w'.os=w.os
 tape:w'.tape=w.tape
 output:w'.output=w.output
 size:w.heap.size≤w'.heap.size
 block:∀k,K k→k<w.heap.size→w'.heap[k]? = w.heap[k]?
section
variable {K : Nat → Prop} {w w' w'' : World}
theorem Kept.refl (K:Nat→Prop) (w:World):Kept K w w:=⟨rfl,rfl,rfl,Nat.le_refl _,fun _ _ _=>rfl⟩
theorem Kept.trans (h:Kept K w w') (g:Kept K w' w''):Kept K w w'':=
 ⟨g.os.trans h.os,g.tape.trans h.tape,g.output.trans h.output,Nat.le_trans h.size g.size,fun k hk hs=>(g.block k hk (Nat.lt_of_lt_of_le hs h.size)).trans (h.block k hk hs)⟩
theorem Kept.mono {K':Nat→Prop} (h:Kept K w w') (hk:∀k,K' k→k<w.heap.size→K k):Kept K' w w':=
 ⟨h.os,h.tape,h.output,h.size,fun k h1 h2=>h.block k (hk k h1 h2) h2⟩
theorem Kept.alloc (h:Kept K w w') (o:Obj):Kept K w (w'.alloc o):=
 h.trans ⟨rfl,rfl,rfl,by simp,fun k _ hs=>Below.heap_alloc _ _ _ hs⟩
theorem Kept.drew (h:Kept K w w'):Kept K w w'.drew:=⟨h.os,h.tape,h.output,h.size,h.block⟩
theorem Kept.setCell (h:Kept K w w') {p:Addr} (hp:K p.block→w.heap.size≤p.block) (u:Value):Kept K w (w'.setCell p u):=
 ⟨h.os,h.tape,h.output,by simpa using h.size,fun k hk hs=>(Below.heap_setCell _ _ _ _ (fun e=>by subst e;have:=hp hk;omega)).trans (h.block k hk hs)⟩
theorem Kept.grown {row:Option Nat} (h:Kept K w w') (hg:w'.grownBy w'' row) (hr:∀k,row=some k→K k→w.heap.size≤k):Kept K w w'':=
 ⟨hg.os.trans h.os,hg.tape.trans h.tape,hg.output.trans h.output,Nat.le_trans h.size hg.size,fun k hk hs =>
   (hg.block k (Nat.lt_of_lt_of_le hs h.size) (fun e=>by have:=hr k e.symm hk;omega)).trans (h.block k hk hs)⟩
theorem Kept.below {B:Nat} (h:Kept (· < B) w w') (hB:B≤w.heap.size):Below B w w':=⟨h.os,h.tape,h.output,h.size,fun k hk=>h.block k hk (by omega)⟩
theorem Kept.ofBelow {B:Nat} (h:Below B w w'):Kept (· < B) w w':=⟨h.os,h.tape,h.output,h.size,fun k hk _=>h.block k hk⟩
theorem Kept.all (h:Below w.heap.size w w'):Kept K w w':=⟨h.os,h.tape,h.output,h.size,fun k _ hs=>h.block k hs⟩
theorem Kept.cell (h:Kept K w w') {b o:Nat} {v:Value} (hk:K b) (hc:w.cell? ⟨b,o,none⟩=some v):w'.cell? ⟨b,o,none⟩=some v:=
 (World.cell?_of_block (h.block b hk (World.block_lt_of_cell? w ⟨b,o,none⟩ hc))).trans hc
theorem Kept.at (h:Kept K w w') {b:Nat} {o:Obj} (hk:K b) (hc:w.heap[b]? = some o):w'.heap[b]? = some o:=
 (h.block b hk (lt_of_block hc)).trans hc
end
section
variable {w w' : World} {b : Nat} {cs : Array Value} {t : TypeId}
theorem blk_cell (h:w.heap[b]? = some (.cells cs t (0,0))) (o:Nat):w.cell? ⟨b,o,none⟩=cs[o]? := by simp [World.cell?,h]
theorem blk_free (h:w.heap[b]? = some (.cells cs t (0,0))) (o:Nat):w.frozen? ⟨b,o,none⟩=false:=by simp [World.frozen?,h]
theorem blk_alloc {o:Obj} {p:Obj} (h:w.heap[b]? = some o):(w.alloc p).heap[b]? = some o:=(Below.heap_alloc w p b (lt_of_block h)).trans h
theorem cell_alloc {o:Nat} {v:Value} (h:w.cell? ⟨b,o,none⟩=some v) (p:Obj):(w.alloc p).cell? ⟨b,o,none⟩=some v:=(World.cell?_alloc_lt _ _ ⟨b,o,none⟩ (World.block_lt_of_cell? w ⟨b,o,none⟩ h)).trans h
theorem blk_new (w:World) (o:Obj):(w.alloc o).heap[w.heap.size]? = some o:=heap_alloc_new w o
theorem blk_at {n:Nat} (w:World) (o:Obj) (hn:n=w.heap.size):(w.alloc o).heap[n]? = some o:=by subst hn;exact heap_alloc_new w o
theorem blk_set (h:w.heap[b]? = some (.cells cs t (0,0))) (i:Nat) (u:Value):(w.setCell ⟨b,i,none⟩ u).heap[b]? = some (.cells (cs.setIfInBounds i u) t (0,0)):=by
 have hlt:=lt_of_block h
 have h':w.heap[b] = .cells cs t (0,0):=by simpa [Array.getElem?_eq_getElem hlt] using h
 show (w.heap.modify b _)[b]? = _
 rw [Array.getElem?_eq_getElem (by simpa using hlt),Array.getElem_modify_self,h']
 rfl
theorem blk_set_other {o:Obj} (h:w.heap[b]? = some o) {p:Addr} (hne:b≠p.block) (u:Value):(w.setCell p u).heap[b]? = some o:=(Below.heap_setCell w p u b hne).trans h
theorem blk_grown {o:Obj} {row:Option Nat} (h:w.heap[b]? = some o) (hg:w.grownBy w' row) (hne:row≠some b):w'.heap[b]? = some o:=
 (hg.block b (lt_of_block h) (Ne.symm hne)).trans h
theorem cell_grown {row:Option Nat} {o:Nat} {v:Value} (hg:w.grownBy w' row) (h:w.cell? ⟨b,o,none⟩=some v) (hne:row≠some b):w'.cell? ⟨b,o,none⟩=some v:=
 (World.cell?_of_block (hg.block b (World.block_lt_of_cell? w ⟨b,o,none⟩ h) (Ne.symm hne))).trans h
end
abbrev Row (w:World) (e size:Nat) (v:Value) (n:Nat) (xs:List Value):Prop:=w.ownsRow 0 e size v n xs
section
variable {w w' : World} {e size n : Nat} {v : Value} {xs : List Value}
theorem own_shape (h:Row w e size v n xs):∃a cap,v = .slice a n cap∧n≤cap∧cap≤maxLen:=by
 rcases h.2 with ⟨rfl,rfl⟩|⟨g,cap,cur,rfl,_,_,h4,h5,_⟩
 · exact ⟨_,_,rfl,Nat.le_refl _,by unfold maxLen;omega⟩
 · exact ⟨_,_,rfl,h4,h5⟩
theorem own_blk (a:Option Addr) (n c m d:Nat):(Value.slice a n c).ownBlock=(Value.slice a m d).ownBlock:=by cases a<;>rfl
theorem own_zero {cap:Nat} {a:Option Addr} (h:Row w e size (.slice a n cap) n xs):Row w e size (.slice a 0 cap) 0 []:=by
 refine ⟨by simp,?_⟩
 rcases h.2 with ⟨h1,rfl⟩|⟨g,cap,cur,h1,h2,h3,h4,h5,h6,h7⟩
 · exact .inl ⟨h1,rfl⟩
 · cases h1
   exact .inr ⟨g,cap,cur,rfl,h2,h3,Nat.zero_le _,h5,h6,by simp⟩
theorem own_block {b:Nat} {cs:Array Value} {t:TypeId} {fr:Nat × Nat} (h:Row w e size v n xs) (hb:w.heap[b]? = some (.cells cs t fr)) (hne:t≠e):v.ownBlock≠some b:=by
 intro hv
 rcases h.2 with ⟨rfl,_⟩|⟨g,cap,cur,rfl,_,hg,_⟩
 · simp [Value.ownBlock] at hv
 · simp only [Value.ownBlock,Option.some.injEq] at hv
   subst hv
   rw [hb] at hg
   cases hg
   exact hne rfl
theorem own_lt (h:Row w e size v n xs):∀k,v.ownBlock=some k→k<w.heap.size:=fun k hk=>(World.ownsRow.lt h k hk).2
theorem own_kept {K:Nat→Prop} (h:Row w e size v n xs) (hk:Kept K w w') (hv:∀g,v.ownBlock=some g→K g):Row w' e size v n xs:=by
 refine ⟨h.1,?_⟩
 rcases h.2 with hn|⟨g,cap,cur,rfl,hb,hgg,rest⟩
 · exact .inl hn
 · exact .inr ⟨g,cap,cur,rfl,hb,hk.at (hv g rfl) hgg,rest⟩
theorem own_alloc (h:Row w e size v n xs) (o:Obj):Row (w.alloc o) e size v n xs:=h.alloc o
theorem own_drew (h:Row w e size v n xs):Row w.drew e size v n xs:=h
theorem own_set {p:Addr} (h:Row w e size v n xs) (hp:v.ownBlock≠some p.block) (u:Value):Row (w.setCell p u) e size v n xs:=ownsRow_setCell_other h hp u
theorem own_grown {row:Option Nat} (h:Row w e size v n xs) (hg:w.grownBy w' row) (hne:v.ownBlock=none∨v.ownBlock≠row):Row w' e size v n xs:=World.ownsRow.kept h hg hne
theorem own_cell (h:Row w e size v n xs):∀j u,xs[j]? = some u → ∃g cap,v = .slice (some ⟨g,0,none⟩) n cap∧w.cell? ⟨g,j,none⟩=some u:=by
 intro j u hu
 rcases h.2 with ⟨rfl,rfl⟩|⟨g,cap,cur,rfl,_,hgg,_,_,_,htake⟩
 · have hx:xs = []:=List.eq_nil_of_length_eq_zero (by simpa using h.1)
   subst hx
   simp at hu
 · refine ⟨g,cap,rfl,?_⟩
   rw [cell_of_row w g j cur e (0,0) hgg]
   rw [←htake,List.getElem?_take] at hu
   split at hu
   · simpa using hu
   · cases hu
end
structure Elem (P:Program) (T e size bytes:Nat) (z:Value):Prop where
 sl:P.underlying T=some (.slice e)
 info:(P.info? e).map (fun i=>(i.zero,i.size,i.bytes))=some (some z,size,bytes)
 zs:z.cells.size=size
 pos:0<size
theorem src_of_row {P:Program} {w:World} {e T size n:Nat} {v:Value} {xs:List Value} (hT:P.underlying T=some (.slice e)) (h:Row w e size v n xs) (h1:∀u∈xs,u.oneCell'=true):Src P size T v n xs w:=by
 rcases h.2 with ⟨rfl,rfl⟩|⟨g,cap,cur,rfl,_,hgg,_⟩
 · have hx:xs = []:=List.eq_nil_of_length_eq_zero (by simpa using h.1)
   subst hx
   exact Src.ofNil w hT 0
 · exact Src.ofSlice w hT _ _ _ _ h.1 (World.ownsRow.cells h rfl) h1
theorem src_of_block {P:Program} {w:World} {e T size m b c:Nat} {cs:Array Value} {fr:Nat × Nat} {t:TypeId} (hT:P.underlying T=some (.slice e)) (h:w.heap[b]? = some (.cells cs t fr)) (hl:cs.size=m*size) (h1:∀u∈cs.toList,u.oneCell'=true) :
   Src P size T (.slice (some ⟨b,0,none⟩) m c) m cs.toList w:=by
 refine Src.ofSlice w hT _ _ _ _ (by simpa using hl) ?_ h1
 intro j u hu
 rw [Addr.add_lit,cell_of_row w b _ cs t fr h]
 simpa using hu
theorem run_app {P:Program} {T e size bytes:Nat} {z:Value} (E:Elem P T e size bytes z) (w:World) (tx ty:Nat) (v:Value) (n:Nat) (xs:List Value) (hown:Row w e size v n xs) (x:Value) (m:Nat) (news:List Value) (hs:Src P size tx x m news w)
   (hb:(n+m)*bytes≤140737488355328) (h63:n+m≤maxLen) :
   ∃a' c' w',(Builtin.append_ #[T,tx] ty #[v,x]).run P w = .ok (.slice a' (n+m) c') w'∧Row w' e size (.slice a' (n+m) c') (n+m) (xs++news)∧w.grownBy w' v.ownBlock ∧
     ((Value.slice a' (n+m) c').ownBlock=v.ownBlock∨(Value.slice a' (n+m) c').ownBlock=some w.heap.size):=by
 obtain ⟨i,hi,hz,hsize,hby⟩:=info_parts E.info
 subst hsize
 subst hby
 have hsmall:n+m≤9223372036854775807:=by simp only [maxLen] at h63;omega
 have hlen:(xs++news).length=(n+m)*i.size:=by rw [List.length_append,hown.1,hs.newsLen,Nat.add_mul]
 have hzs:=E.zs
 have grown:∀(old:Nat),old<n+m → ∀(row:Option Nat),
     Row (w.drew.alloc (.cells ((xs++news).toArray++Builtin.zeroCells z.cells (grownCap w (n+m) old e-(n+m))) e)) e i.size
       (.slice (some ⟨w.heap.size,0,none⟩) (n+m) (grownCap w (n+m) old e)) (n+m) (xs++news) ∧
     w.grownBy (w.drew.alloc (.cells ((xs++news).toArray++Builtin.zeroCells z.cells (grownCap w (n+m) old e-(n+m))) e)) row:=by
   intro old ho row
   have hge:=grownCap_ge w (n+m) old e
   have hcm:grownCap w (n+m) old e≤maxLen:=grownCap_le_maxLen w (n+m) old e h63
   refine ⟨⟨hlen,.inr ⟨w.heap.size,_,_,rfl,Nat.zero_le _,heap_alloc_new w.drew _,hge,hcm,?_,?_⟩⟩,⟨rfl,rfl,rfl,by simp,fun k hk _=>Below.heap_alloc w.drew _ k hk⟩⟩
   · simp only [Array.size_append,List.size_toArray,size_zeroCells,hzs,hlen,←Nat.add_mul]
     congr 1
     omega
   · simp only [Array.toList_append,←hlen]
     exact List.take_left
 rcases hown.2 with ⟨rfl,rfl⟩|⟨g,cap,cur,rfl,hbg,hg,hnc,hcm,hcs,htake⟩
 · have hx:xs = []:=List.eq_nil_of_length_eq_zero (by simpa using hown.1)
   subst hx
   by_cases hm:m=0
   · subst hm
     have hn:news = []:=List.eq_nil_of_length_eq_zero (by simpa using hs.newsLen)
     subst hn
     refine ⟨none,0,w,?_,World.ownsRow_nil w 0 e i.size,⟨rfl,rfl,rfl,Nat.le_refl _,fun _ _ _=>rfl⟩,.inl rfl⟩
     rcases hs.kind with ⟨e',hk⟩|hk<;>simp [Builtin.append_,run_underlying E.sl,run_underlying hk,sizeOf,typeInfo,hi,hs.len,hs.cells]
   · have hr:=run_append_grow_src (P:=P) w T tx ty e i z E.sl hi hz none 0 0 [] (run_firstCells_none w.drew i.size 0 0 0) x m news hs (by omega) (by omega) (growslice_fits (by omega) (by simpa using hb))
     obtain ⟨h1,h2⟩:=grown 0 (by omega) (Value.ownBlock (.slice none 0 0))
     exact ⟨_,_,_,hr,h1,h2,.inr rfl⟩
 · by_cases hroom:n+m≤cap
   · have hfit:n*i.size+news.length≤cur.size:=by rw [hs.newsLen,hcs,←Nat.add_mul];exact Nat.mul_le_mul_right _ hroom
     have hst:=run_storeCells_at P g (n*i.size) e news 0 cur w hg (by simpa using hfit) hs.one
     simp only [Nat.add_zero] at hst
     refine ⟨some ⟨g,0,none⟩,cap,w.setRow g (cur.toList.take (n*i.size)++news++cur.toList.drop (n*i.size+news.length)).toArray,?_,⟨hlen,.inr ⟨g,cap,_,rfl,hbg,setRow_heap w g cur _ e _ hg,hroom,hcm,?_,?_⟩⟩,
       ⟨rfl,rfl,rfl,by simp,fun k _ hk=>setRow_other w g k _ (fun e=>hk (by simp [Value.ownBlock,e]))⟩,.inl rfl⟩
     · rcases hs.kind with ⟨e',hk⟩|hk<;>simp [Builtin.append_,run_underlying E.sl,run_underlying hk,sizeOf,typeInfo,hi,hs.len,hroom,hs.cells,Addr.add_lit,hst]
     · simp only [List.size_toArray,List.length_append,List.length_take,List.length_drop,Array.length_toList]
       omega
     · rw [htake,←hlen]
       exact List.take_left
   · have holds:∀j u,xs[j]? = some u→w.drew.cell? ((⟨g,0,none⟩:Addr).add j)=some u:=World.ownsRow.cells hown (g:=g) rfl
     have hr:=run_append_grow_src (P:=P) w T tx ty e i z E.sl hi hz (some ⟨g,0,none⟩) n cap xs (run_firstCells_some w.drew i.size n ⟨g,0,none⟩ n cap xs hown.1 holds) x m news hs (by omega) (by omega) (growslice_fits (by omega) hb)
     obtain ⟨h1,h2⟩:=grown cap (by omega) (Value.ownBlock (.slice (some ⟨g,0,none⟩) n cap))
     exact ⟨_,_,_,hr,h1,h2,.inr rfl⟩
section
variable {P : Program} {T e size bytes tx : Nat} {z : Value} {w : World} {ops : Array Oper} {rest : List Oper} {o : Oper} {a : Act} {Q : Exit → Act → World → Prop}
theorem wp_app (E:Elem P T e size bytes z) {K:Act→World→Prop} (s x:Operand) (ho:o.op = .call { callee:=.builtin .append,args:=#[s,x],argTypes:=#[T,tx] })
   (v:Value) (n:Nat) (xs:List Value) (hs:a.eval s=v) (hown:Row w e size v n xs) (m:Nat) (news:List Value) (hx:Src P size tx (a.eval x) m news w)
   (hb:(n+m)*bytes≤140737488355328) (h63:n+m≤maxLen)
   (h:∀a' c' w',Row w' e size (.slice a' (n+m) c') (n+m) (xs++news)→w.grownBy w' v.ownBlock→((Value.slice a' (n+m) c').ownBlock=v.ownBlock∨(Value.slice a' (n+m) c').ownBlock=some w.heap.size)→K (a.put o.dst (.slice a' (n+m) c')) w'):o.wp P a w K Q:=by
 obtain ⟨a',c',w',hr,h2,h3,h4⟩:=run_app (P:=P) E w tx o.type v n xs hown (a.eval x) m news hx hb h63
 unfold Oper.wp execOp
 simp only [ho,resolve,invoke,builtin,Sem.run_bind,Sem.run_pure,Result.andThen_ok,List.map_toArray,List.map_cons,List.map_nil,hs,hr]
 exact h a' c' w' h2 h3 h4
theorem wpList_app (E:Elem P T e size bytes z) (hgd:o.guard=none) (s x:Operand) (ho:o.op = .call { callee:=.builtin .append,args:=#[s,x],argTypes:=#[T,tx] })
   (v:Value) (n:Nat) (xs:List Value) (hs:a.eval s=v) (hown:Row w e size v n xs) (m:Nat) (news:List Value) (hx:Src P size tx (a.eval x) m news w)
   (hb:(n+m)*bytes≤140737488355328) (h63:n+m≤maxLen)
   (h:∀a' c' w',Row w' e size (.slice a' (n+m) c') (n+m) (xs++news)→w.grownBy w' v.ownBlock→((Value.slice a' (n+m) c').ownBlock=v.ownBlock∨(Value.slice a' (n+m) c').ownBlock=some w.heap.size)→wpList P ops Q rest (a.put o.dst (.slice a' (n+m) c')) w') :
   wpList P ops Q (o::rest) a w:=
 wpList_plain hgd fun _ hK=>wp_app E s x ho v n xs hs hown m news hx hb h63 fun a' c' w' h2 h3 h4=>hK _ _ (h a' c' w' h2 h3 h4)
theorem step_app {K:Act→World→Prop} {X:Prop} (E:Elem P T e size bytes z) (hgd:o.guard=none) (s x:Operand) (ho:o.op = .call { callee:=.builtin .append,args:=#[s,x],argTypes:=#[T,tx] })
   (v:Value) (n:Nat) (xs:List Value) (hs:a.eval s=v) (hown:Row w e size v n xs) (m:Nat) (news:List Value) (hx:Src P size tx (a.eval x) m news w)
   (hb:(n+m)*bytes≤140737488355328) (h63:n+m≤maxLen)
   (h:∀a' c' w',Row w' e size (.slice a' (n+m) c') (n+m) (xs++news)→w.grownBy w' v.ownBlock→((Value.slice a' (n+m) c').ownBlock=v.ownBlock∨(Value.slice a' (n+m) c').ownBlock=some w.heap.size)→K (a.put o.dst (.slice a' (n+m) c')) w') :
   if Region.wanted o (yielded ops a.tmps)=true then Oper.wp P o a w K Q else X:=by
 rw [if_pos (by simp [Region.wanted,hgd])]
 exact wp_app E s x ho v n xs hs hown m news hx hb h63 h
end
def Fresh (B:Nat) (v:Value):Prop := ∀g,v.ownBlock=some g→B≤g
theorem Fresh.nil (B:Nat):Fresh B (.slice none 0 0):=fun g hg=>by cases hg
theorem Fresh.app {B:Nat} {v v':Value} {n:Nat} (h:Fresh B v) (hB:B≤n) (hat:v'.ownBlock=v.ownBlock∨v'.ownBlock=some n):Fresh B v':=fun g hg=>by
 rcases hat with e|e
 · exact h g (by rw [←e];exact hg)
 · rw [e] at hg;cases hg;exact hB
theorem Fresh.mono {B B':Nat} {v:Value} (h:Fresh B v) (hB:B'≤B):Fresh B' v:=fun g hg=>Nat.le_trans hB (h g hg)
theorem Below.app {B:Nat} {w w1 w2:World} {v:Value} (h:Below B w w1) (hB:B≤w1.heap.size) (hg:w1.grownBy w2 v.ownBlock) (hf:Fresh B v):Below B w w2:=h.grown hg hB hf
theorem own_below {w w':World} {e size n:Nat} {v:Value} {xs:List Value} (h:Row w e size v n xs) (hb:Below w.heap.size w w'):Row w' e size v n xs:=own_kept h (Kept.all (K:=fun _=>True) hb) (fun _ _=>trivial)
theorem Below.then {B:Nat} {w w1 w2:World} (h:Below B w w1) (hB:B≤w.heap.size) (g:Below w1.heap.size w1 w2):Below B w w2:=h.trans (g.mono (Nat.le_trans hB h.size))
theorem Below.undrew {B:Nat} {w w1:World} (h:Below B w.drew w1):Below B w w1:=⟨h.os,h.tape,h.output,h.size,h.block⟩
theorem Kept.undrew {K:Nat→Prop} {w w1:World} (h:Kept K w.drew w1):Kept K w w1:=⟨h.os,h.tape,h.output,h.size,h.block⟩
theorem cell_below {w w':World} {b o:Nat} {v:Value} (h:w.cell? ⟨b,o,none⟩=some v) (hb:Below w.heap.size w w'):w'.cell? ⟨b,o,none⟩=some v:=(Kept.all (K:=fun _=>True) hb).cell trivial h
theorem blk_below {w w':World} {b:Nat} {o:Obj} (h:w.heap[b]? = some o) (hb:Below w.heap.size w w'):w'.heap[b]? = some o:=(Kept.all (K:=fun _=>True) hb).at trivial h
def bv (l:List Int):List Value:=l.map (Value.int .u8)
@[simp] theorem bv_length (l:List Int):(bv l).length=l.length:=by simp [bv]
theorem bv_append (l k:List Int):bv (l++k)=bv l++bv k:=by simp [bv]
theorem bv_one (l:List Int):∀u∈bv l,u.oneCell'=true:=by
 intro u hu
 obtain ⟨_,_,rfl⟩:=List.mem_map.1 hu
 rfl
theorem E5:Elem Tryz.prog 22 5 1 1 (.int .u8 0):=⟨Tryz.underlying22,by kernel_rfl,rfl,by decide⟩
def RdI (k:IntKind) (w:World) (v:Value) (l:List Int):Prop:=
 ∃a c,v = .slice a l.length c∧l.length≤c∧c≤maxLen ∧ ∀j x,l[j]? = some x → ∃b o,a=some ⟨b,o,none⟩∧w.cell? ⟨b,o+j,none⟩=some (.int k x)
abbrev RdB:=RdI .u8
def inK (K:Nat→Prop):Value→Prop
 | .slice (some a) n _=>n=0∨K a.block
 | _=>True
theorem RdI.kept {k:IntKind} {K:Nat→Prop} {w w':World} {v:Value} {l:List Int} (h:RdI k w v l) (hk:Kept K w w') (hv:inK K v):RdI k w' v l:=by
 obtain ⟨a,c,rfl,h1,h2,h3⟩:=h
 refine ⟨a,c,rfl,h1,h2,fun j x hj => ?_⟩
 obtain ⟨b,o,rfl,hc⟩:=h3 j x hj
 have hl:l.length≠0:=fun h0=>by
   have:l = []:=List.eq_nil_of_length_eq_zero h0
   subst this;simp at hj
 exact ⟨b,o,rfl,hk.cell (hv.resolve_left hl) hc⟩
theorem RdI.below {k:IntKind} {w w':World} {v:Value} {l:List Int} (h:RdI k w v l) (hb:Below w.heap.size w w'):RdI k w' v l:=by
 refine h.kept (K:=fun _=>True) (Kept.all hb) ?_
 obtain ⟨a,c,rfl,_⟩:=h
 cases a<;>simp [inK]
theorem rd_of_row {w:World} {n:Nat} {v:Value} {l:List Int} (h:Row w 5 1 v n (bv l)):RdB w v l:=by
 have hn:l.length=n:=by have:=h.1;simpa using this
 subst hn
 obtain ⟨a,cap,rfl,h1,h2⟩:=own_shape h
 refine ⟨a,cap,rfl,h1,h2,fun j x hj => ?_⟩
 obtain ⟨g,c,hv,hc⟩:=own_cell h j (.int .u8 x) (by simp [bv,hj])
 cases hv
 exact ⟨g,0,rfl,by simpa using hc⟩
theorem RdI.take {k:IntKind} {w:World} {a:Option Addr} {n c:Nat} {l:List Int} (h:RdI k w (.slice a n c) l) {m:Nat} (hm:m≤n):RdI k w (.slice a m c) (l.take m):=by
 obtain ⟨a,c,e,h1,h2,h3⟩:=h
 cases e
 refine ⟨a,c,by rw [List.length_take,Nat.min_eq_left hm],by rw [List.length_take];omega,h2,fun j x hj => ?_⟩
 rw [List.getElem?_take] at hj
 split at hj
 · exact h3 j x hj
 · cases hj
theorem src_of_rd {w:World} {v:Value} {l:List Int} (h:RdB w v l):Src Tryz.prog 1 22 v l.length (bv l) w:=by
 obtain ⟨a,c,rfl,_,_,h3⟩:=h
 cases l with
 | nil =>
   cases a with
   | none=>exact Src.ofNil w Tryz.underlying22 c
   | some a=>exact Src.ofSlice w Tryz.underlying22 a 0 c [] rfl (by simp) (by simp)
 | cons y l =>
   obtain ⟨b,o,rfl,_⟩:=h3 0 y rfl
   refine Src.ofSlice w Tryz.underlying22 _ _ _ _ (by simp) ?_ (bv_one _)
   intro j u hu
   simp only [bv,List.getElem?_map] at hu
   cases hj:(y::l)[j]? with
   | none=>simp [hj] at hu
   | some x =>
     simp [hj] at hu
     obtain ⟨b',o',e,hc⟩:=h3 j x hj
     cases e
     rw [Addr.add_lit,hc,hu]
theorem conv_rd {w:World} {v:Value} {l:List Int} (h:RdB w v l):(convert 22 9 v).run Tryz.prog w = .ok (.string (strOfNums l)) w:=by
 obtain ⟨a,c,rfl,_,_,h3⟩:=h
 cases l with
 | nil =>
   cases a with
   | none=>exact run_convert_bytes_nil w _ _ Tryz.underlying22 Tryz.underlying5 _ _ _ Tryz.underlying9
   | some a =>
     rw [run_convert_bytes_string w _ _ _ _ _ c Tryz.underlying22 Tryz.underlying5 Tryz.underlying9,run_bytesToString w _ _ c [] (by simp [loadCells,loadCellsFrom])]
     rfl
 | cons y l =>
   obtain ⟨b,o,rfl,_⟩:=h3 0 y rfl
   refine run_convert_bytes_arg w _ _ Tryz.underlying22 Tryz.underlying5 b o _ c (y::l) rfl ?_ _ Tryz.underlying9
   intro i hi
   obtain ⟨b',o',e,hc⟩:=h3 i ((y::l)[i]) (by simp [hi])
   cases e
   rw [hc,List.getD_eq_getElem?_getD,List.getElem?_eq_getElem hi]
   rfl
theorem wrap_u8 {n:Int} (h0:0≤n) (h1:n<256):IntKind.u8.wrap n=n:=by
 have:(2:Int) ^ 8=256:=by decide
 simp [IntKind.wrap,IntKind.bits,IntKind.signed,this]
 omega
def zB (n:Nat):Array Value:=madeCells #[.int .u8 0] n
theorem zB_size (n:Nat):(zB n).size=n:=size_madeCells _ _
theorem zB_list (n:Nat):(zB n).toList=bv (List.replicate n 0):=by
 unfold zB
 rw [toList_madeCells_one]
 simp [bv]
theorem mk5 (n:Nat) (hn:n≤100000000000) (w:World) :
   (Instr.makeSlice 22 (.int .i64 (n:Int)) (.int .i64 (n:Int))).run Tryz.prog w = .ok (.slice (some ⟨w.heap.size,0,none⟩) n n) (w.alloc (.cells (zB n) 5)):=by
 obtain ⟨i0,hi,hz0,hz1,hz2⟩:=info_parts E5.info
 have:=run_make (P:=Tryz.prog) w 22 5 i0 _ E5.sl hi hz0 .i64 .i64 (n:Int) (n:Int) (by omega) (by omega) (by rw [hz2];omega) (by omega)
 rw [hz1] at this
 simpa [zB,Value.cells] using this
theorem blk_drew {w:World} {b:Nat} {o:Obj} (h:w.heap[b]? = some o):w.drew.heap[b]? = some o:=h
def RetB (w:World) (l:List Int) (e:Ending) (w':World):Prop := ∃r,e = .returned r∧Below w.heap.size w w'∧Row w' 5 1 r l.length (bv l)∧Fresh w.heap.size r
section
variable {P : Program} {ops : Array Oper} {Q : Exit → Act → World → Prop} {md : Region.Mode} {S : World → Prop} {oi : Oper} {fuel : Nat} {listed : Array Bool} {a : Act} {w : World}
theorem tkS (i:Nat) (v:Value) (h:wpAnyH P md ops Q S fuel (listed.setIfInBounds i true) (a.put oi.dst v) w) (hi:ops[i]? = some oi:=by exact rfl)
   (hs:Region.noSelect ops=true:=by kernel_rfl) (hf:Region.free md ops listed i=true:=by kernel_rfl) (hr:(Region.ready md ops listed).contains i=true:=by kernel_rfl)
   (hw:Region.wanted oi (yielded ops a.tmps)=true:=by kernel_rfl) (hv:∀w',S w'→(execOp a.eval oi).run P w' = .ok (.value v) w':=by intro w' _;go_simp)
   (hQ:∀c a w,Q (.panic c) (a.put oi.dst v) w→Q (.panic c) a w:=by exact fun _ _ _ h=>h) (hS:S w:=by assumption):wpAnyH P md ops Q S (fuel+1) listed a w:=
 wpAnyH_take hi hs hf hr hQ (Or.inl ⟨hw,hv⟩) hS h
theorem tkL (i:Nat) (v:Value) (hv:∀w',S w'→(execOp a.eval oi).run P w' = .ok (.value v) w') (h:wpAnyH P md ops Q S fuel (listed.setIfInBounds i true) (a.put oi.dst v) w) (hi:ops[i]? = some oi:=by exact rfl)
   (hs:Region.noSelect ops=true:=by kernel_rfl) (hf:Region.free md ops listed i=true:=by kernel_rfl) (hr:(Region.ready md ops listed).contains i=true:=by kernel_rfl)
   (hw:Region.wanted oi (yielded ops a.tmps)=true:=by kernel_rfl)
   (hQ:∀c a w,Q (.panic c) (a.put oi.dst v) w→Q (.panic c) a w:=by exact fun _ _ _ h=>h) (hS:S w:=by assumption):wpAnyH P md ops Q S (fuel+1) listed a w:=
 wpAnyH_take hi hs hf hr hQ (Or.inl ⟨hw,hv⟩) hS h
theorem tkSr (i:Nat) (v:Value) (h:wpAnyH P md ops Q S fuel (listed.setIfInBounds i true) (a.put oi.dst v) w) (hi:ops[i]? = some oi:=by exact rfl)
   (hs:Region.noSelect ops=true:=by kernel_rfl) (hf:Region.free md ops listed i=true:=by kernel_rfl) (hr:(Region.ready md ops listed).contains i=true:=by kernel_rfl)
   (hw:Region.wanted oi (yielded ops a.tmps)=true:=by exact rfl) (hv:∀w',S w'→(execOp a.eval oi).run P w' = .ok (.value v) w':=by intro w' _;go_simp)
   (hQ:∀c a w,Q (.panic c) (a.put oi.dst v) w→Q (.panic c) a w:=by exact fun _ _ _ h=>h) (hS:S w:=by assumption):wpAnyH P md ops Q S (fuel+1) listed a w:=
 wpAnyH_take hi hs hf hr hQ (Or.inl ⟨hw,hv⟩) hS h
theorem tkLr (i:Nat) (v:Value) (hv:∀w',S w'→(execOp a.eval oi).run P w' = .ok (.value v) w') (h:wpAnyH P md ops Q S fuel (listed.setIfInBounds i true) (a.put oi.dst v) w) (hi:ops[i]? = some oi:=by exact rfl)
   (hs:Region.noSelect ops=true:=by kernel_rfl) (hf:Region.free md ops listed i=true:=by kernel_rfl) (hr:(Region.ready md ops listed).contains i=true:=by kernel_rfl)
   (hw:Region.wanted oi (yielded ops a.tmps)=true:=by exact rfl)
   (hQ:∀c a w,Q (.panic c) (a.put oi.dst v) w→Q (.panic c) a w:=by exact fun _ _ _ h=>h) (hS:S w:=by assumption):wpAnyH P md ops Q S (fuel+1) listed a w:=
 wpAnyH_take hi hs hf hr hQ (Or.inl ⟨hw,hv⟩) hS h
theorem tkU (i:Nat) (h:wpAnyH P md ops Q S fuel (listed.setIfInBounds i true) (a.put oi.dst undef) w) (hi:ops[i]? = some oi:=by exact rfl)
   (hs:Region.noSelect ops=true:=by kernel_rfl) (hf:Region.free md ops listed i=true:=by kernel_rfl) (hr:(Region.ready md ops listed).contains i=true:=by kernel_rfl)
   (hw:Region.wanted oi (yielded ops a.tmps)=false:=by kernel_rfl)
   (hQ:∀c a w,Q (.panic c) (a.put oi.dst undef) w→Q (.panic c) a w:=by exact fun _ _ _ h=>h) (hS:S w:=by assumption):wpAnyH P md ops Q S (fuel+1) listed a w:=
 wpAnyH_take hi hs hf hr hQ (Or.inr ⟨hw,rfl⟩) hS h
end
theorem sxA {α:Type _} (l:List α) (i:Nat) (a:α):l.toArray.setIfInBounds i a=(l.set i a).toArray:=List.setIfInBounds_toArray ..
theorem sxB {α:Type _} {a b:α} {l:List α}:(a::l).set 0 b=b::l:=rfl
theorem sxC {α:Type _} {a b:α} {l:List α} {n:Nat}:(a::l).set (n+1) b=a::l.set n b:=rfl
theorem sxD {α:Type _} {l:List α} {i:Nat} (h:i<l.toArray.size):l.toArray[i]=l[i]'(by simpa using h):=rfl
theorem sxE {α:Type _} {a:α} {l:List α} (h:0<(a::l).length):(a::l)[0]'h=a:=rfl
theorem sxF {α:Type _} {a:α} {l:List α} {i:Nat} (h:i+1<(a::l).length):(a::l)[i+1]'h=l[i]'(Nat.lt_of_succ_lt_succ h):=rfl
end Go.Proofs.YtfdlbjibninakaaGreatDoor

namespace Go.Proofs.YtfdlbjibninakaaGreatDoor
open Go.RowKit
section
variable {P : Program} {ops : Array Oper} {rest : List Oper} {o : Oper} {a : Act} {Q : Exit → Act → World → Prop} {w : World}
theorem wp_store_blk {K:Act→World→Prop} (T:TypeId) (x v:Operand) (ho:o.op = .store T x v) (g:Nat) (hx:a.eval x = .pointer (some ⟨g,0,none⟩)) (cs old:Array Value) (hv:a.eval v = .agg cs) (t:TypeId)
   (hg:w.heap[g]? = some (.cells old t (0,0))) (hsz:cs.size=old.size) (hi:(P.info? T).map (·.size)=some cs.size) (h1:∀u∈cs.toList,u.oneCell'=true)
   (h:∀w',w'.heap[g]? = some (.cells cs t (0,0))→Kept (· ≠ g) w w'→K (a.put o.dst undef) w'):o.wp P a w K Q:=by
 obtain ⟨i,hi,hs⟩:=Option.map_eq_some_iff.1 hi
 have hst:=run_storeCells_at P g 0 t cs.toList 0 old w hg (by simp [hsz]) h1
 simp only [Nat.add_zero,List.take_zero,List.nil_append,Nat.zero_add] at hst
 have hd:old.toList.drop cs.toList.length = []:=List.drop_eq_nil_of_le (by simp [hsz])
 rw [hd,List.append_nil] at hst
 unfold Oper.wp execOp
 simp [ho,hx,hv,Instr.storeAt,Instr.sureAddr,storeVar,Value.cells,sizeOf,typeInfo,hi,hs,hst]
 exact h _ (by simpa using setRow_heap w g old cs t (0,0) hg) ⟨rfl,rfl,rfl,by simp,fun k hk _=>setRow_other w g k _ hk⟩
theorem wpList_store_blk (hgd:o.guard=none) (T:TypeId) (x v:Operand) (ho:o.op = .store T x v) (g:Nat) (hx:a.eval x = .pointer (some ⟨g,0,none⟩)) (cs old:Array Value) (hv:a.eval v = .agg cs) (t:TypeId)
   (hg:w.heap[g]? = some (.cells old t (0,0))) (hsz:cs.size=old.size) (hi:(P.info? T).map (·.size)=some cs.size) (h1:∀u∈cs.toList,u.oneCell'=true)
   (h:∀w',w'.heap[g]? = some (.cells cs t (0,0))→Kept (· ≠ g) w w'→wpList P ops Q rest (a.put o.dst undef) w'):wpList P ops Q (o::rest) a w:=
 wpList_plain hgd fun _ hK=>wp_store_blk T x v ho g hx cs old hv t hg hsz hi h1 fun w' h2 h3=>hK _ _ (h w' h2 h3)
theorem wpList_load_blk (hgd:o.guard=none) (T:TypeId) (x:Operand) (ho:o.op = .load T x) (g:Nat) (hx:a.eval x = .pointer (some ⟨g,0,none⟩)) (cs:Array Value) (t:TypeId) {fs:Array Field}
   (hg:w.heap[g]? = some (.cells cs t (0,0))) (hu:P.underlying T=some (.struct fs)) (hi:(P.info? T).map (·.size)=some cs.size)
   (h:wpList P ops Q rest (a.put o.dst (.agg cs)) w):wpList P ops Q (o::rest) a w:=
 wpList_load_row hgd T x ho g hx t cs (0,0) _ hg hu rfl hi h
end
theorem ret_blk {P:Program} {fn:Func} {R:Ending→World→Prop} {a:Act} {w:World} {p:Tmp} {T:TypeId} (h:fn.results = #[.cell p T]) (g:Nat) (t:TypeId) (cs:Array Value) {fs:Array Field}
   (hp:a.tmps.getD p undef = .pointer (some ⟨g,0,none⟩)) (hg:w.heap[g]? = some (.cells cs t (0,0))) (hu:P.underlying T=some (.struct fs)) (hi:(P.info? T).map (·.size)=some cs.size) (hd:a.defers = [])
   (hR:R (.returned (.agg cs)) w):bodyPost P fn R .ret a w:=
 bodyPost_ret (results_cell_row h _ w g t cs (0,0) _ hp hg hu rfl hi) hd hR
end Go.Proofs.YtfdlbjibninakaaGreatDoor

namespace Go.Proofs.YtfdlbjibninakaaGreatDoor
theorem and_bit (n i:Nat):n &&& 2 ^ i=n / 2 ^ i%2*2 ^ i:=by
 apply Nat.eq_of_testBit_eq
 intro j
 rw [Nat.testBit_and,Nat.testBit_two_pow]
 by_cases h:n / 2 ^ i%2=1
 · rw [h,Nat.one_mul,Nat.testBit_two_pow]
   by_cases e:i=j
   · subst e;simp [Nat.testBit_eq_decide_div_mod_eq,h]
   · simp [e]
 · have h0:n / 2 ^ i%2=0:=by omega
   rw [h0,Nat.zero_mul,Nat.zero_testBit]
   by_cases e:i=j
   · subst e;simp [Nat.testBit_eq_decide_div_mod_eq,h0]
   · simp [e]
theorem u32_bit (s:Int) (i:Nat) (h0:0≤s) (h1:s<4294967296) (hi:2 ^ i<4294967296):bits .and .u32 s ((2 ^ i:Nat):Int)=s / ((2 ^ i:Nat):Int)%2*((2 ^ i:Nat):Int):=by
 obtain ⟨n,rfl⟩:=Int.eq_ofNat_of_zero_le h0
 rw [u32_and_nat n (2 ^ i) (by omega) hi,and_bit]
 simp only [Int.natCast_mul,Int.natCast_emod,Int.natCast_ediv]
 rfl
theorem u32_top (s:Int) (h0:0≤s) (h1:s<4294967296):bits .and .u32 s 2147483648=s / 2147483648*2147483648:=by
 have:=u32_bit s 31 h0 h1 (by decide)
 rw [show ((2 ^ 31:Nat):Int)=2147483648 from rfl] at this
 rw [this]
 omega
theorem u32_low (s:Int) (h0:0≤s) (h1:s<4294967296):bits .and .u32 s 2147483647=s%2147483648:=by
 obtain ⟨n,rfl⟩:=Int.eq_ofNat_of_zero_le h0
 have:=u32_and_nat n 2147483647 (by omega) (by omega)
 rw [show ((2147483647:Nat):Int)=2147483647 from rfl] at this
 rw [this,show (2147483647:Nat)=2 ^ 31-1 from rfl,Nat.and_two_pow_sub_one_eq_mod]
 rfl
theorem u8_bit (s:Int) (i:Nat) (h0:0≤s) (h1:s<256) (hi:2 ^ i<256):bits .and .u8 s ((2 ^ i:Nat):Int)=s / ((2 ^ i:Nat):Int)%2*((2 ^ i:Nat):Int):=by
 obtain ⟨n,rfl⟩:=Int.eq_ofNat_of_zero_le h0
 rw [u8_and_nat n (2 ^ i) (by omega) hi,and_bit]
 simp only [Int.natCast_mul,Int.natCast_emod,Int.natCast_ediv]
 rfl
theorem u8_and1 (s:Int) (h0:0≤s) (h1:s<256):bits .and .u8 s 1=s%2:=by
 have:=u8_bit s 0 h0 h1 (by decide)
 simpa using this
theorem u8_and4 (s:Int) (h0:0≤s) (h1:s<256):bits .and .u8 s 4=s / 4%2*4:=u8_bit s 2 h0 h1 (by decide)
theorem u8_and8 (s:Int) (h0:0≤s) (h1:s<256):bits .and .u8 s 8=s / 8%2*8:=u8_bit s 3 h0 h1 (by decide)
theorem u8_and32 (s:Int) (h0:0≤s) (h1:s<256):bits .and .u8 s 32=s / 32%2*32:=u8_bit s 5 h0 h1 (by decide)
theorem u32_or_add' (k:Nat) {a c:Int} (ha:0≤a) (ha1:a<((2 ^ k:Nat):Int)) (hc:0≤c) (hs:c*((2 ^ k:Nat):Int)+a<4294967296):bits .or .u32 (c*((2 ^ k:Nat):Int)) a=c*((2 ^ k:Nat):Int)+a:=by
 obtain ⟨a,rfl⟩:=Int.eq_ofNat_of_zero_le ha
 obtain ⟨c,rfl⟩:=Int.eq_ofNat_of_zero_le hc
 have hor:=@Nat.two_pow_add_eq_or_of_lt k a (by omega) c
 generalize 2 ^ k=q at *
 have e:(c:Int)*(q:Int)=((q*c:Nat):Int):=by rw [Int.natCast_mul,Int.mul_comm]
 rw [e] at hs ⊢
 have:=u32_or_nat (q*c) a (by omega) (by omega)
 rw [this,←hor,Int.natCast_add]
end Go.Proofs.YtfdlbjibninakaaGreatDoor

namespace Go.Proofs.YtfdlbjibninakaaGreatDoor
structure Fr where
 ty:Int
 fl:Int
 st:Int
 ln:Int
 data:List Int
 pr:Int
 la:Int
 co:Int
 inc:Int
 hp:Bool
 ex:Bool
 dep:Int
 wt:Int
 set:List (Int × Int)
def Fr.zero:Fr:=⟨0,0,0,0,[],0,0,0,0,false,false,0,0,[]⟩
structure Rs where
 f:Int
 c:Int
 s:Int
 x:Fr
def Rs.bad (f c s:Int):Rs:=⟨f,c,s,Fr.zero⟩
def Rs.ok (x:Fr):Rs:=⟨0,0,0,x⟩
structure Hd where
 ty:Int
 fl:Int
 ln:Int
 st:Int
def gb (b:List Int) (i:Nat):Int:=b.getD i 0
def n16 (b:List Int) (i:Nat):Int:=gb b i*256+gb b (i+1)
def n32 (b:List Int) (i:Nat):Int:=gb b i*16777216+gb b (i+1)*65536+gb b (i+2)*256+gb b (i+3)
def n31 (b:List Int) (i:Nat):Int:=n32 b i%2147483648
def hdOf (b:List Int):Hd:=⟨gb b 3,gb b 4,gb b 0*65536+gb b 1*256+gb b 2,n31 b 5⟩
def bitOf (fl k:Int):Bool:=decide (fl / k%2=1)
def Fr.of (h:Hd):Fr:={ Fr.zero with ty:=h.ty,fl:=h.fl,st:=h.st,ln:=h.ln }
def parseData (h:Hd) (b:List Int):Rs:=
 if h.st=0 then .bad 4 1 0
 else if bitOf h.fl 8 then
   match b with
   | [] => .bad 2 0 0
   | p::b=>if (b.length:Int)<p then .bad 4 1 0 else .ok { Fr.of h with data:=b.take (b.length-p.toNat) }
 else .ok { Fr.of h with data:=b }
def headEnd (h:Hd) (x:Fr) (pad:Int) (b:List Int):Rs:=
 if (b.length:Int)<pad then .bad 5 1 h.st else .ok { x with data:=b.take (b.length-pad.toNat) }
def headPrio (h:Hd) (pad:Int) (b:List Int):Rs:=
 if bitOf h.fl 32 then
   if b.length<5 then .bad 2 0 0
   else headEnd h { Fr.of h with hp:=true,ex:=decide (2147483648≤n32 b 0),dep:=n31 b 0,wt:=gb b 4 } pad (b.drop 5)
 else headEnd h (Fr.of h) pad b
def parseHeaders (h:Hd) (b:List Int):Rs:=
 if h.st=0 then .bad 4 1 0
 else if bitOf h.fl 8 then
   match b with
   | [] => .bad 2 0 0
   | p::b=>headPrio h p b
 else headPrio h 0 b
def parsePriority (h:Hd) (b:List Int):Rs:=
 if h.st=0 then .bad 4 1 0
 else if b.length≠5 then .bad 4 6 0
 else .ok { Fr.of h with ex:=decide (2147483648≤n32 b 0),dep:=n31 b 0,wt:=gb b 4 }
def parseRst (h:Hd) (b:List Int):Rs:=
 if b.length≠4 then .bad 4 6 0 else if h.st=0 then .bad 4 1 0 else .ok { Fr.of h with co:=n32 b 0 }
def pairs:Nat→List Int→List (Int × Int)
 | 0,_ => []
 | n+1,b=>(n16 b 0,n32 b 2)::pairs n (b.drop 6)
def firstOf (k:Int) (l:List (Int × Int)):Int:=((l.find? (fun p=>p.1==k)).map (·.2)).getD 0
def parseSettings (h:Hd) (b:List Int):Rs:=
 if bitOf h.fl 1∧0<h.ln then .bad 4 6 0
 else if h.st≠0 then .bad 4 1 0
 else if b.length%6≠0 then .bad 4 6 0
 else if 2147483647<firstOf 4 (pairs (b.length / 6) b) then .bad 4 3 0
 else .ok { Fr.of h with set:=pairs (b.length / 6) b }
def pushEnd (h:Hd) (pad:Int) (b:List Int):Rs:=
 if b.length<4 then .bad 2 0 0
 else if ((b.length:Int)-4)<pad then .bad 4 1 0
 else .ok { Fr.of h with pr:=n31 b 0,data:=(b.drop 4).take (b.length-4-pad.toNat) }
def parsePush (h:Hd) (b:List Int):Rs:=
 if h.st=0 then .bad 4 1 0
 else if bitOf h.fl 8 then
   match b with
   | [] => .bad 2 0 0
   | p::b=>pushEnd h p b
 else pushEnd h 0 b
def parsePing (h:Hd) (b:List Int):Rs:=
 if b.length≠8 then .bad 4 6 0 else if h.st≠0 then .bad 4 1 0 else .ok { Fr.of h with data:=b }
def parseGoAway (h:Hd) (b:List Int):Rs:=
 if h.st≠0 then .bad 4 1 0 else if b.length<8 then .bad 4 6 0 else .ok { Fr.of h with la:=n31 b 0,co:=n32 b 4,data:=b.drop 8 }
def parseWindow (h:Hd) (b:List Int):Rs:=
 if b.length≠4 then .bad 4 6 0
 else if n31 b 0=0 then (if h.st=0 then .bad 4 1 0 else .bad 5 1 h.st)
 else .ok { Fr.of h with inc:=n31 b 0 }
def parseCont (h:Hd) (b:List Int):Rs:=
 if h.st=0 then .bad 4 1 0 else .ok { Fr.of h with data:=b }
def parseUpdate (h:Hd) (b:List Int):Rs:=
 if h.st≠0 then .bad 4 1 0
 else if b.length<4 then .bad 4 6 0
 else if n31 b 0=0 then .bad 4 1 0
 else .ok { Fr.of h with pr:=n31 b 0,data:=b.drop 4 }
def parseUnknown (h:Hd) (b:List Int):Rs:=.ok { Fr.of h with data:=b }
def parse (h:Hd) (b:List Int):Rs:=
 if h.ty=0 then parseData h b
 else if h.ty=1 then parseHeaders h b
 else if h.ty=2 then parsePriority h b
 else if h.ty=3 then parseRst h b
 else if h.ty=4 then parseSettings h b
 else if h.ty=5 then parsePush h b
 else if h.ty=6 then parsePing h b
 else if h.ty=7 then parseGoAway h b
 else if h.ty=8 then parseWindow h b
 else if h.ty=9 then parseCont h b
 else if h.ty=16 then parseUpdate h b
 else parseUnknown h b
def ordBad (o:Int) (h:Hd):Bool:=if o=0 then decide (h.ty=9) else (decide (h.ty≠9)||decide (h.st≠o))
def nextO (o:Int) (h:Hd):Int:=if h.ty=1∨h.ty=9 then (if bitOf h.fl 4 then 0 else h.st) else o
def cutOff (b:List Int):Rs:=if b.length=0 then .bad 1 0 0 else .bad 2 0 0
def one (m o:Int) (b:List Int):Rs × Int × List Int:=
 if b.length<9 then (cutOff b,o,[])
 else if m<(hdOf b).ln then (.bad 3 0 0,o,b.drop 9)
 else if ordBad o (hdOf b) then (.bad 4 1 0,o,b.drop 9)
 else if ((b.drop 9).length:Int)<(hdOf b).ln then (cutOff (b.drop 9),nextO o (hdOf b),[])
 else (parse (hdOf b) ((b.drop 9).take (hdOf b).ln.toNat),nextO o (hdOf b),(b.drop 9).drop (hdOf b).ln.toNat)
def Rs.going (r:Rs):Bool:=decide (r.f=0∨r.f=5)
theorem cutOff_stops (b:List Int):(cutOff b).going=false:=by unfold cutOff;split<;>rfl
theorem one_going {m o:Int} {b:List Int} (h:(one m o b).1.going=true):9≤b.length∧(hdOf b).ln≤m∧ordBad o (hdOf b)=false∧(hdOf b).ln≤((b.drop 9).length:Int) ∧
   one m o b=(parse (hdOf b) ((b.drop 9).take (hdOf b).ln.toNat),nextO o (hdOf b),(b.drop 9).drop (hdOf b).ln.toNat):=by
 unfold one at h ⊢
 by_cases h1:b.length<9
 · rw [if_pos h1,cutOff_stops] at h;cases h
 rw [if_neg h1] at h ⊢
 by_cases h2:m<(hdOf b).ln
 · rw [if_pos h2] at h;cases h
 rw [if_neg h2] at h ⊢
 by_cases h3:ordBad o (hdOf b)=true
 · rw [if_pos h3] at h;cases h
 rw [if_neg h3] at h ⊢
 by_cases h4:((b.drop 9).length:Int)<(hdOf b).ln
 · rw [if_pos h4,cutOff_stops] at h;cases h
 rw [if_neg h4] at h ⊢
 exact ⟨by omega,by omega,by simpa using h3,by omega,rfl⟩
theorem one_less {m o:Int} {b:List Int} (h:(one m o b).1.going=true):(one m o b).2.2.length<b.length:=by
 obtain ⟨h1,-,-,-,h2⟩:=one_going h
 rw [h2]
 simp only [List.length_drop]
 omega
def readAll (m o:Int) (b:List Int):List Rs:=
 if h:(one m o b).1.going=true then (one m o b).1::readAll m (one m o b).2.1 (one m o b).2.2 else [(one m o b).1]
termination_by b.length
decreasing_by exact one_less h
theorem readAll_go {m o:Int} {b:List Int} (h:(one m o b).1.going=true):readAll m o b=(one m o b).1::readAll m (one m o b).2.1 (one m o b).2.2:=by
 rw [readAll,dif_pos h]
theorem readAll_stop {m o:Int} {b:List Int} (h:(one m o b).1.going=false):readAll m o b = [(one m o b).1]:=by
 rw [readAll,dif_neg (by simp [h])]
end Go.Proofs.YtfdlbjibninakaaGreatDoor

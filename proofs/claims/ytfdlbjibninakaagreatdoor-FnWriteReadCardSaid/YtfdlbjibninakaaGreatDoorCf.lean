/- Rows of results, as calls leave them. -/
import Derived.Test.YtfdlbjibninakaaGreatDoorBase
import Derived.Deep.QuietTactic
import Derived.BigQuiet
set_option linter.unusedVariables false
set_option linter.unusedSimpArgs false
namespace Go.Proofs.YtfdlbjibninakaaGreatDoor
open Go.RowKit
section
variable {P : Program} {ops : Array Oper} {rest : List Oper} {o : Oper} {a : Act} {Q : Exit → Act → World → Prop} {w : World}
theorem run_loadVar_at (w:World) (g off:Nat) (ty:TypeId) (cs:Array Value) {fs:Array Field} (hc:∀j v,cs[j]? = some v→w.cell? ⟨g,off+j,none⟩=some v)
   (hu:P.underlying ty=some (.struct fs)) (hi:(P.info? ty).map (·.size)=some cs.size):(loadVar ty ⟨g,off,none⟩).run P w = .ok (.agg cs) w:=by
 have hl:(loadCells ⟨g,off,none⟩ cs.toList.length).run P w = .ok cs.toList.toArray w:=
   run_loadCells_list (P:=P) w ⟨g,off,none⟩ cs.toList (fun j v hv=>by
     rw [Addr.add_lit]
     exact hc j v (by simpa using hv))
 obtain ⟨i,hi,hs⟩:=Option.map_eq_some_iff.1 hi
 have hagg:(isAgg ty).run P w = .ok true w:=by
   unfold isAgg
   rw [Sem.run_bind,run_underlying hu w]
   rfl
 simp only [Array.length_toList,Array.toArray_toList] at hl
 simp [loadVar,Sem.run_bind,hagg,sizeOf,typeInfo,hi,hs,hl]
theorem wp_load_at {K:Act→World→Prop} (T:TypeId) (x:Operand) (ho:o.op = .load T x) (g off:Nat) (hx:a.eval x = .pointer (some ⟨g,off,none⟩)) (cs:Array Value) {fs:Array Field}
   (hc:∀j v,cs[j]? = some v→w.cell? ⟨g,off+j,none⟩=some v) (hu:P.underlying T=some (.struct fs)) (hi:(P.info? T).map (·.size)=some cs.size)
   (h:K (a.put o.dst (.agg cs)) w):o.wp P a w K Q:=by
 unfold Oper.wp execOp
 simp only [ho,hx,Instr.loadAt,Instr.sureAddr,Sem.run_bind,Sem.run_pure,Result.andThen_ok,run_loadVar_at w g off T cs hc hu hi]
 exact h
theorem wpList_load_at (hgd:o.guard=none) (T:TypeId) (x:Operand) (ho:o.op = .load T x) (g off:Nat) (hx:a.eval x = .pointer (some ⟨g,off,none⟩)) (cs:Array Value) {fs:Array Field}
   (hc:∀j v,cs[j]? = some v→w.cell? ⟨g,off+j,none⟩=some v) (hu:P.underlying T=some (.struct fs)) (hi:(P.info? T).map (·.size)=some cs.size)
   (h:wpList P ops Q rest (a.put o.dst (.agg cs)) w):wpList P ops Q (o::rest) a w:=
 wpList_plain hgd fun _ hK=>wp_load_at T x ho g off hx cs hc hu hi (hK _ _ h)
theorem exec_load_at (T:TypeId) (x:Operand) (ho:o.op = .load T x) (g off:Nat) (hx:a.eval x = .pointer (some ⟨g,off,none⟩)) (cs:Array Value) {fs:Array Field}
   (hc:∀j v,cs[j]? = some v→w.cell? ⟨g,off+j,none⟩=some v) (hu:P.underlying T=some (.struct fs)) (hi:(P.info? T).map (·.size)=some cs.size):(execOp a.eval o).run P w = .ok (.value (.agg cs)) w:=by
 unfold execOp
 simp only [ho,hx,Instr.loadAt,Instr.sureAddr,Sem.run_bind,Sem.run_pure,Result.andThen_ok,run_loadVar_at w g off T cs hc hu hi]
theorem quiet_load_at {C:World→Prop} {Q':Act→Prop} (hgd:o.guard=none) (T:TypeId) (x:Operand) (ho:o.op = .load T x) (g off:Nat) (hx:a.eval x = .pointer (some ⟨g,off,none⟩)) (cs:Array Value) {fs:Array Field}
   (hc:∀w,C w → ∀j v,cs[j]? = some v→w.cell? ⟨g,off+j,none⟩=some v) (hu:P.underlying T=some (.struct fs)) (hi:(P.info? T).map (·.size)=some cs.size)
   (h:wpQuiet P ops C Q' rest (a.put o.dst (.agg cs))):wpQuiet P ops C Q' (o::rest) a:=by
 unfold wpQuiet
 rw [if_pos (by simp [Region.wanted,hgd])]
 refine ⟨.agg cs,fun w hw => ?_,h⟩
 unfold Oper.quietAt
 rw [exec_load_at T x ho g off hx cs (hc w hw) hu hi]
 exact ⟨rfl,rfl⟩
theorem wpList_store_at (hgd:o.guard=none) (T:TypeId) (x v:Operand) (ho:o.op = .store T x v) (g off:Nat) (hx:a.eval x = .pointer (some ⟨g,off,none⟩)) (cs old:Array Value) (hv:a.eval v = .agg cs) (t:TypeId)
   (hg:w.heap[g]? = some (.cells old t (0,0))) (hsz:off+cs.size≤old.size) (hi:(P.info? T).map (·.size)=some cs.size) (h1:∀u∈cs.toList,u.oneCell'=true)
   (h:∀w',w'.heap[g]? = some (.cells (old.toList.take off++cs.toList++old.toList.drop (off+cs.size)).toArray t (0,0))→Kept (· ≠ g) w w'→wpList P ops Q rest (a.put o.dst undef) w'):wpList P ops Q (o::rest) a w:=by
 refine wpList_plain hgd fun K hK => ?_
 obtain ⟨i,hi,hs⟩:=Option.map_eq_some_iff.1 hi
 have hst:=run_storeCells_at P g off t cs.toList 0 old w hg (by simpa using hsz) h1
 simp only [Nat.add_zero] at hst
 unfold Oper.wp execOp
 simp [ho,hx,hv,Instr.storeAt,Instr.sureAddr,storeVar,Value.cells,sizeOf,typeInfo,hi,hs,hst]
 refine hK _ _ (h _ ?_ ⟨rfl,rfl,rfl,by simp,fun k hk _=>setRow_other w g k _ hk⟩)
 simpa using setRow_heap w g old (old.toList.take off++cs.toList++old.toList.drop (off+cs.size)).toArray t (0,0) hg
end
def frameC (ty fl st ln:Int) (data:Value) (pr la co inc:Int) (hp ex:Bool) (dep wt:Int) (set:Value):Array Value:=
 #[.int .i64 ty,.int .i64 fl,.int .u32 st,.int .i64 ln,data,.int .u32 pr,.int .u32 la,.int .u32 co,.int .u32 inc,.bool hp,.bool ex,.int .u32 dep,.int .i64 wt,set]
theorem infoFi:(Tryz.prog.info? 63).map (·.size)=some 14:=by kernel_rfl
theorem infoFs:(Tryz.prog.info? 29).map (·.size)=some 14:=by kernel_rfl
theorem infoRi:(Tryz.prog.info? 65).map (·.size)=some 17:=by kernel_rfl
theorem infoRs:(Tryz.prog.info? 31).map (·.size)=some 17:=by kernel_rfl
def frX (x:Fr) (dv sv:Value):Array Value:=frameC x.ty x.fl x.st x.ln dv x.pr x.la x.co x.inc x.hp x.ex x.dep x.wt sv
def rsC (f c s:Int) (fr:Array Value):Array Value:=#[.int .i64 f,.int .u32 c,.int .u32 s]++fr
def rsX (r:Rs) (dv sv:Value):Array Value:=rsC r.f r.c r.s (frX r.x dv sv)
theorem frX_size (x:Fr) (dv sv:Value):(frX x dv sv).size=14:=rfl
theorem rsX_size (r:Rs) (dv sv:Value):(rsX r dv sv).size=17:=rfl
def prV (l:List (Int × Int)):List Value:=l.flatMap fun p => [.int .i64 p.1,.int .u32 p.2]
theorem prV_length (l:List (Int × Int)):(prV l).length=l.length*2:=by
 induction l with
 | nil=>rfl
 | cons p l ih=>simp only [prV,List.flatMap_cons,List.length_append,List.length_cons,List.length_nil] at ih ⊢;omega
theorem prV_app (l k:List (Int × Int)):prV (l++k)=prV l++prV k:=by simp [prV]
theorem prV_at {l:List (Int × Int)}:∀{j:Nat} {p:Int × Int},l[j]? = some p→(prV l)[2*j]? = some (.int .i64 p.1)∧(prV l)[2*j+1]? = some (.int .u32 p.2):=by
 induction l with
 | nil=>intro j p h;simp at h
 | cons q l ih =>
   intro j p h
   cases j with
   | zero=>simp at h;subst h;exact ⟨rfl,rfl⟩
   | succ j =>
     simp at h
     have:=ih h
     have e:prV (q::l) = .int .i64 q.1 :: .int .u32 q.2::prV l:=rfl
     rw [e,show 2*(j+1)=2*j+1+1 by omega,List.getElem?_cons_succ,List.getElem?_cons_succ]
     exact ⟨this.1,by rw [List.getElem?_cons_succ,List.getElem?_cons_succ];exact this.2⟩
def RdP (w:World) (v:Value) (l:List (Int × Int)):Prop:=
 ∃a c,v = .slice a l.length c∧l.length≤c∧c≤maxLen ∧ ∀j p,l[j]? = some p → ∃b o,a=some ⟨b,o,none⟩∧w.cell? ⟨b,o+2*j,none⟩=some (.int .i64 p.1)∧w.cell? ⟨b,o+(2*j+1),none⟩=some (.int .u32 p.2)
theorem RdP.kept {K:Nat→Prop} {w w':World} {v:Value} {l:List (Int × Int)} (h:RdP w v l) (hk:Kept K w w') (hv:inK K v):RdP w' v l:=by
 obtain ⟨a,c,rfl,h1,h2,h3⟩:=h
 refine ⟨a,c,rfl,h1,h2,fun j x hj => ?_⟩
 obtain ⟨b,o,rfl,hc,hd⟩:=h3 j x hj
 have hl:l.length≠0:=fun h0=>by
   have:l = []:=List.eq_nil_of_length_eq_zero h0
   subst this;simp at hj
 exact ⟨b,o,rfl,hk.cell (hv.resolve_left hl) hc,hk.cell (hv.resolve_left hl) hd⟩
theorem RdP.below {w w':World} {v:Value} {l:List (Int × Int)} (h:RdP w v l) (hb:Below w.heap.size w w'):RdP w' v l:=by
 refine h.kept (K:=fun _=>True) (Kept.all hb) ?_
 obtain ⟨a,c,rfl,_⟩:=h
 cases a<;>simp [inK]
theorem RdP.nil (w:World):RdP w (.slice none 0 0) []:=⟨none,0,rfl,Nat.zero_le _,Nat.zero_le _,fun j p h=>by simp at h⟩
theorem rdP_of_row {w:World} {n T:Nat} {v:Value} {l:List (Int × Int)} (h:Row w T 2 v n (prV l)):RdP w v l:=by
 have hn:l.length=n:=by have:=h.1;rw [prV_length] at this;omega
 subst hn
 obtain ⟨a,cap,rfl,h1,h2⟩:=own_shape h
 refine ⟨a,cap,rfl,h1,h2,fun j p hj => ?_⟩
 obtain ⟨e1,e2⟩:=prV_at hj
 obtain ⟨g,c,hv,hc⟩:=own_cell h _ _ e1
 obtain ⟨g',c',hv',hc'⟩:=own_cell h _ _ e2
 cases hv
 cases hv'
 exact ⟨g,0,rfl,by simpa using hc,by simpa using hc'⟩
theorem rdB_nil (w:World):RdB w (.slice none 0 0) []:=⟨none,0,rfl,Nat.zero_le _,Nat.zero_le _,fun j p h=>by simp at h⟩
theorem two_at {w:World} {b o k off:Nat} {u v:Value} (h1:w.cell? ⟨b,o+2*k,none⟩=some u) (h2:w.cell? ⟨b,o+(2*k+1),none⟩=some v) (e:off=o+2*k):∀j x,(#[u,v]:Array Value)[j]? = some x→w.cell? ⟨b,off+j,none⟩=some x:=by
 intro j x hx
 match j with
 | 0=>simp at hx;subst hx;rw [e];exact h1
 | 1=>simp at hx;subst hx;rw [show off+1=o+(2*k+1) by omega];exact h2
 | j+2=>simp at hx
inductive RsAll (K:Nat→Prop) (w:World):List Value→List Rs→Prop
 | nil:RsAll K w [] []
 | cons (r:Rs) (dv sv:Value) (xs:List Value) (rs:List Rs) (hd:RdB w dv r.x.data) (hdk:inK K dv) (hs:RdP w sv r.x.set) (hsk:inK K sv) (h:RsAll K w xs rs):RsAll K w ((rsX r dv sv).toList++xs) (r::rs)
section
variable {K K' : Nat → Prop} {w w' : World} {xs : List Value} {rs : List Rs}
theorem RsAll.kept (h:RsAll K w xs rs) (hk:Kept K w w'):RsAll K w' xs rs:=by
 induction h with
 | nil=>exact .nil
 | cons r dv sv xs rs hd hdk hs hsk h ih=>exact .cons r dv sv xs rs (hd.kept hk hdk) hdk (hs.kept hk hsk) hsk ih
theorem inK.mono' {K K':Nat→Prop} {v:Value} (h:inK K v) (hk:∀k,K k→K' k):inK K' v:=by
 cases v with
 | slice a n c=>cases a with
   | none=>trivial
   | some a=>exact h.imp id (hk _)
 | _=>trivial
theorem RsAll.mono (h:RsAll K w xs rs) (hk:∀k,K k→K' k):RsAll K' w xs rs:=by
 induction h with
 | nil=>exact .nil
 | cons r dv sv xs rs hd hdk hs hsk h ih=>exact .cons r dv sv xs rs hd (hdk.mono' hk) hs (hsk.mono' hk) ih
theorem RsAll.stay (h:RsAll K w xs rs) (hb:Below w.heap.size w w'):RsAll K w' xs rs:=by
 induction h with
 | nil=>exact .nil
 | cons r dv sv xs rs hd hdk hs hsk h ih=>exact .cons r dv sv xs rs (hd.below hb) hdk (hs.below hb) hsk ih
theorem RsAll.snoc (h:RsAll K w xs rs) {r:Rs} {dv sv:Value} (hd:RdB w dv r.x.data) (hdk:inK K dv) (hs:RdP w sv r.x.set) (hsk:inK K sv):RsAll K w (xs++(rsX r dv sv).toList) (rs ++ [r]):=by
 induction h with
 | nil=>simpa using RsAll.cons r dv sv [] [] hd hdk hs hsk .nil
 | cons r' dv' sv' xs rs hd' hdk' hs' hsk' h ih=>rw [List.append_assoc,List.cons_append];exact .cons r' dv' sv' _ _ hd' hdk' hs' hsk' ih
theorem RsAll.app {ys:List Value} {ss:List Rs} (h:RsAll K w xs rs) (g:RsAll K w ys ss):RsAll K w (xs++ys) (rs++ss):=by
 induction h with
 | nil=>exact g
 | cons r' dv' sv' xs rs hd' hdk' hs' hsk' h ih=>rw [List.append_assoc,List.cons_append];exact .cons r' dv' sv' _ _ hd' hdk' hs' hsk' ih
theorem RsAll.length (h:RsAll K w xs rs):xs.length=rs.length*17:=by
 induction h with
 | nil=>rfl
 | cons r dv sv xs rs hd hdk hs hsk h ih=>rw [List.length_append,ih,List.length_cons,Array.length_toList,rsX_size];omega
theorem RsAll.at (h:RsAll K w xs rs):∀{j:Nat} {r:Rs},rs[j]? = some r → ∃dv sv,RdB w dv r.x.data∧inK K dv∧RdP w sv r.x.set∧inK K sv ∧ ∀i u,(rsX r dv sv)[i]? = some u→xs[j*17+i]? = some u:=by
 induction h with
 | nil=>intro j r hr;simp at hr
 | cons r dv sv xs rs hd hdk hs hsk h ih =>
   intro j r' hr
   cases j with
   | zero =>
     simp at hr
     subst hr
     refine ⟨dv,sv,hd,hdk,hs,hsk,fun i u hi => ?_⟩
     have hlt:=(Array.getElem?_eq_some_iff.1 hi).1
     rw [Nat.zero_mul,Nat.zero_add,List.getElem?_append_left (by simpa using hlt)]
     simpa using hi
   | succ j =>
     simp at hr
     obtain ⟨dv',sv',h1,h2,h3,h4,h5⟩:=ih hr
     refine ⟨dv',sv',h1,h2,h3,h4,fun i u hi => ?_⟩
     rw [List.getElem?_append_right (by rw [Array.length_toList,rsX_size];omega),Array.length_toList,rsX_size,show (j+1)*17+i-17=j*17+i by omega]
     exact h5 i u hi
end
end Go.Proofs.YtfdlbjibninakaaGreatDoor

namespace Go.Proofs.YtfdlbjibninakaaGreatDoor
open Go.RowKit
theorem ERs:Elem Tryz.prog 23 31 17 128 (.agg (rsC 0 0 0 (frX Fr.zero (.slice none 0 0) (.slice none 0 0)))):=⟨Tryz.underlying23,by kernel_rfl,rfl,by decide⟩
theorem rsC_at {w:World} {q:Nat} {f c s:Int} {fr:Array Value} {t:TypeId} (h:w.heap[q]? = some (.cells (rsC f c s fr) t (0,0))):∀j v,fr[j]? = some v→w.cell? ⟨q,3+j,none⟩=some v:=by
 intro j v hj
 rw [blk_cell h]
 unfold rsC
 rw [Array.getElem?_append_right (by simp)]
 simpa using hj
theorem rsC_012 {w:World} {q:Nat} {f c s:Int} {fr:Array Value} {t:TypeId} (h:w.heap[q]? = some (.cells (rsC f c s fr) t (0,0))):w.cell? ⟨q,0,none⟩=some (.int .i64 f)∧w.cell? ⟨q,1,none⟩=some (.int .u32 c)∧w.cell? ⟨q,2,none⟩=some (.int .u32 s):=
 by
 refine ⟨(blk_cell h 0).trans ?_,(blk_cell h 1).trans ?_,(blk_cell h 2).trans ?_⟩<;>(unfold rsC;rw [Array.getElem?_append_left (by simp)];rfl)
theorem frX_one (x:Fr) (a b:Option Addr) (n c m d:Nat):∀u∈(frX x (.slice a n c) (.slice b m d)).toList,u.oneCell'=true:=by simp [frX,frameC,Value.oneCell']
theorem rsX_one (r:Rs) (a b:Option Addr) (n c m d:Nat):∀u∈(rsX r (.slice a n c) (.slice b m d)).toList,u.oneCell'=true:=by simp [rsX,rsC,frX,frameC,Value.oneCell']
abbrev All:Nat→Prop:=fun _=>True
def ResR (T:Nat) (w:World) (v:Value) (rs:List Rs):Prop := ∃xs,Row w T 17 v rs.length xs∧RsAll All w xs rs
def ResEnd (T:Nat) (w:World) (rs:List Rs) (e:Ending) (w':World):Prop := ∃v,e = .returned v∧Below w.heap.size w w'∧ResR T w' v rs∧Fresh w.heap.size v
theorem ResR.stay {T:Nat} {w w':World} {v:Value} {rs:List Rs} (h:ResR T w v rs) (hb:Below w.heap.size w w'):ResR T w' v rs:=by
 obtain ⟨xs,h1,h2⟩:=h
 exact ⟨xs,own_below h1 hb,h2.stay hb⟩
end Go.Proofs.YtfdlbjibninakaaGreatDoor

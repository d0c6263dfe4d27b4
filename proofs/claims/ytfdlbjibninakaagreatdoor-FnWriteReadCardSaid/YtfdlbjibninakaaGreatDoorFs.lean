/- Reading: the whole state of a framer that reads, and what each change leaves of it. -/
import Derived.Test.YtfdlbjibninakaaGreatDoorPs5
import Derived.Deep.RegionHeld3
set_option linter.unusedVariables false
set_option linter.unusedSimpArgs false
namespace Go.Proofs.YtfdlbjibninakaaGreatDoor
open Go.RowKit
theorem inv_DataFrame (x:Addr) (w:World):(method 391 126 (.pointer (some x)) "http2frames/pub/http2frames.invalidate").run Tryz.prog w = .ok (152,.pointer (some x)) w:=by kernel_rfl
theorem inv_HeadersFrame (x:Addr) (w:World):(method 391 129 (.pointer (some x)) "http2frames/pub/http2frames.invalidate").run Tryz.prog w = .ok (152,.pointer (some x)) w:=by kernel_rfl
theorem inv_PriorityFrame (x:Addr) (w:World):(method 391 136 (.pointer (some x)) "http2frames/pub/http2frames.invalidate").run Tryz.prog w = .ok (152,.pointer (some x)) w:=by kernel_rfl
theorem inv_RSTStreamFrame (x:Addr) (w:World):(method 391 139 (.pointer (some x)) "http2frames/pub/http2frames.invalidate").run Tryz.prog w = .ok (152,.pointer (some x)) w:=by kernel_rfl
theorem inv_SettingsFrame (x:Addr) (w:World):(method 391 142 (.pointer (some x)) "http2frames/pub/http2frames.invalidate").run Tryz.prog w = .ok (152,.pointer (some x)) w:=by kernel_rfl
theorem inv_PushPromiseFrame (x:Addr) (w:World):(method 391 149 (.pointer (some x)) "http2frames/pub/http2frames.invalidate").run Tryz.prog w = .ok (152,.pointer (some x)) w:=by kernel_rfl
theorem inv_PingFrame (x:Addr) (w:World):(method 391 152 (.pointer (some x)) "http2frames/pub/http2frames.invalidate").run Tryz.prog w = .ok (152,.pointer (some x)) w:=by kernel_rfl
theorem inv_GoAwayFrame (x:Addr) (w:World):(method 391 156 (.pointer (some x)) "http2frames/pub/http2frames.invalidate").run Tryz.prog w = .ok (152,.pointer (some x)) w:=by kernel_rfl
theorem inv_WindowUpdateFrame (x:Addr) (w:World):(method 391 159 (.pointer (some x)) "http2frames/pub/http2frames.invalidate").run Tryz.prog w = .ok (152,.pointer (some x)) w:=by kernel_rfl
theorem inv_ContinuationFrame (x:Addr) (w:World):(method 391 162 (.pointer (some x)) "http2frames/pub/http2frames.invalidate").run Tryz.prog w = .ok (152,.pointer (some x)) w:=by kernel_rfl
theorem inv_PriorityUpdateFrame (x:Addr) (w:World):(method 391 163 (.pointer (some x)) "http2frames/pub/http2frames.invalidate").run Tryz.prog w = .ok (152,.pointer (some x)) w:=by kernel_rfl
theorem inv_UnknownFrame (x:Addr) (w:World):(method 391 166 (.pointer (some x)) "http2frames/pub/http2frames.invalidate").run Tryz.prog w = .ok (152,.pointer (some x)) w:=by kernel_rfl
def FrT (t:Nat):Prop:=t=126∨t=129∨t=136∨t=139∨t=142∨t=149∨t=152∨t=156∨t=159∨t=162∨t=163∨t=166
theorem inv_any {t:Nat} (h:FrT t) (x:Addr) (w:World):(method 391 t (.pointer (some x)) "http2frames/pub/http2frames.invalidate").run Tryz.prog w = .ok (152,.pointer (some x)) w:=by
 unfold FrT at h
 rcases h with rfl|rfl|rfl|rfl|rfl|rfl|rfl|rfl|rfl|rfl|rfl|rfl
 · exact inv_DataFrame x w
 · exact inv_HeadersFrame x w
 · exact inv_PriorityFrame x w
 · exact inv_RSTStreamFrame x w
 · exact inv_SettingsFrame x w
 · exact inv_PushPromiseFrame x w
 · exact inv_PingFrame x w
 · exact inv_GoAwayFrame x w
 · exact inv_WindowUpdateFrame x w
 · exact inv_ContinuationFrame x w
 · exact inv_PriorityUpdateFrame x w
 · exact inv_UnknownFrame x w
theorem invalidate_any {p:Nat} {w:World} {c:Array Value} {t:TypeId} {v:Bool} (hp:w.heap[p]? = some (.cells c t (0,0))) (hc:c[0]? = some (.bool v)):Calls Tryz.prog 152 #[.pointer (some ⟨p,0,none⟩)] w fun e w'=>e = .returned (.tuple #[])∧w.setCell ⟨p,0,none⟩ (.bool false)=w':=by
 have k0:w.cell? ⟨p,0,none⟩=some (.bool v):=(blk_cell hp 0).trans hc
 have f0:w.frozen? ⟨p,0,none⟩=false:=blk_free hp 0
 go_enter Tryz.func152,Tryz.ntmps152
 go_wp2
 go_end0
 exact ⟨rfl,rfl⟩
structure FS (cs:Array Value) (cl bR:Nat) (lf:Value) (o m:Int) (rb:Value):Prop where
 size:cs.size=24
 c0:cs[0]? = some (.iface 69 (.pointer (some ⟨bR,0,none⟩)))
 c1:cs[1]? = some lf
 c3:cs[3]? = some (.func (.func 44) #[] #[])
 c4:cs[4]? = some (.int .u32 o)
 c6:cs[6]? = some (.int .u32 m)
 c16:cs[16]? = some (.func (.func 45) #[] #[.pointer (some ⟨cl,0,none⟩)])
 c17:cs[17]? = some rb
 c22:cs[22]? = some (.bool false)
 c23:cs[23]? = some (.pointer none)
theorem get_set (cs:Array Value) (i j:Nat) (v:Value) (hi:i<cs.size):(cs.setIfInBounds i v)[j]? = if i=j then some v else cs[j]? := by
 rw [Array.getElem?_setIfInBounds]
 by_cases e:i=j
 · subst e;simp [hi]
 · simp [e]
section
variable {cs : Array Value} {cl bR : Nat} {lf : Value} {o m : Int} {rb : Value}
theorem FS.some (h:FS cs cl bR lf o m rb) {i:Nat} (hi:i<24):∃v,cs[i]? = some v:=⟨_,Array.getElem?_eq_getElem (by rw [h.size];exact hi)⟩
theorem FS.set (h:FS cs cl bR lf o m rb) {i:Nat} (hi:i=2∨i=5) (v:Value):FS (cs.setIfInBounds i v) cl bR lf o m rb:=by
 have hs:i<cs.size:=by rw [h.size];omega
 refine ⟨by simp [h.size],?_,?_,?_,?_,?_,?_,?_,?_,?_⟩<;>rw [get_set _ _ _ _ hs,if_neg (by omega)]
 · exact h.c0
 · exact h.c1
 · exact h.c3
 · exact h.c4
 · exact h.c6
 · exact h.c16
 · exact h.c17
 · exact h.c22
 · exact h.c23
theorem FS.setLf (h:FS cs cl bR lf o m rb) (v:Value):FS (cs.setIfInBounds 1 v) cl bR v o m rb:=by
 have hs:1<cs.size:=by rw [h.size];omega
 refine ⟨by simp [h.size],?_,?_,?_,?_,?_,?_,?_,?_,?_⟩<;>rw [get_set _ _ _ _ hs]
 · rw [if_neg (by omega)];exact h.c0
 · exact if_pos rfl
 · rw [if_neg (by omega)];exact h.c3
 · rw [if_neg (by omega)];exact h.c4
 · rw [if_neg (by omega)];exact h.c6
 · rw [if_neg (by omega)];exact h.c16
 · rw [if_neg (by omega)];exact h.c17
 · rw [if_neg (by omega)];exact h.c22
 · rw [if_neg (by omega)];exact h.c23
theorem FS.setO (h:FS cs cl bR lf o m rb) (v:Int):FS (cs.setIfInBounds 4 (.int .u32 v)) cl bR lf v m rb:=by
 have hs:4<cs.size:=by rw [h.size];omega
 refine ⟨by simp [h.size],?_,?_,?_,?_,?_,?_,?_,?_,?_⟩<;>rw [get_set _ _ _ _ hs]
 · rw [if_neg (by omega)];exact h.c0
 · rw [if_neg (by omega)];exact h.c1
 · rw [if_neg (by omega)];exact h.c3
 · exact if_pos rfl
 · rw [if_neg (by omega)];exact h.c6
 · rw [if_neg (by omega)];exact h.c16
 · rw [if_neg (by omega)];exact h.c17
 · rw [if_neg (by omega)];exact h.c22
 · rw [if_neg (by omega)];exact h.c23
theorem FS.setRb (h:FS cs cl bR lf o m rb) (v:Value):FS (cs.setIfInBounds 17 v) cl bR lf o m v:=by
 have hs:17<cs.size:=by rw [h.size];omega
 refine ⟨by simp [h.size],?_,?_,?_,?_,?_,?_,?_,?_,?_⟩<;>rw [get_set _ _ _ _ hs]
 · rw [if_neg (by omega)];exact h.c0
 · rw [if_neg (by omega)];exact h.c1
 · rw [if_neg (by omega)];exact h.c3
 · rw [if_neg (by omega)];exact h.c4
 · rw [if_neg (by omega)];exact h.c6
 · rw [if_neg (by omega)];exact h.c16
 · exact if_pos rfl
 · rw [if_neg (by omega)];exact h.c22
 · rw [if_neg (by omega)];exact h.c23
theorem FS.filled (h:FS cs cl bR lf o m rb) {cs':Array Value} {l:List Int} (hf:Filled cs 7 l cs') (hl:l.length≤9):FS cs' cl bR lf o m rb:=by
 refine ⟨hf.size.trans h.size,?_,?_,?_,?_,?_,?_,?_,?_,?_⟩<;>rw [hf.rest _ (by omega)]
 · exact h.c0
 · exact h.c1
 · exact h.c3
 · exact h.c4
 · exact h.c6
 · exact h.c16
 · exact h.c17
 · exact h.c22
 · exact h.c23
end
end Go.Proofs.YtfdlbjibninakaaGreatDoor

namespace Go.Proofs.YtfdlbjibninakaaGreatDoor
set_option maxRecDepth 10000
set_option maxHeartbeats 8000000
open Go.RowKit
theorem ret_blk2 {P:Program} {fn:Func} {R:Ending→World→Prop} {a:Act} {w:World} {p u:Tmp} {T:TypeId} (h:fn.results = #[.cell p T,.tmp u]) (g:Nat) (t:TypeId) (cs:Array Value) {fs:Array Field}
   (hp:a.tmps.getD p undef = .pointer (some ⟨g,0,none⟩)) (hg:w.heap[g]? = some (.cells cs t (0,0))) (hu:P.underlying T=some (.struct fs)) (hi:(P.info? T).map (·.size)=some cs.size) (hd:a.defers = [])
   (hR:R (.returned (.tuple #[.agg cs,a.tmps.getD u undef])) w):bodyPost P fn R .ret a w:=by
 refine bodyPost_ret ?_ hd hR
 have hp':a.tmps[p]?.getD undef = .pointer (some ⟨g,0,none⟩):=by simpa using hp
 simp [results,h,hp',asAddr,run_loadVar_row w g t T cs (0,0) _ hg hu rfl hi]
theorem blk_drh {w:World} {b:Nat} {o:Obj} (h:w.heap[b]? = some o) (n:Nat):(w.drewN n).heap[b]? = some o:=h
theorem blkEqh {w:World} {b:Nat} {cs cs':Array Value} {t:TypeId} {fr:Nat × Nat} (h:w.heap[b]? = some (.cells cs t fr)) (e:cs=cs'):w.heap[b]? = some (.cells cs' t fr):=e▸h
theorem infoH:(Tryz.prog.info? 113).map (·.size)=some 5:=by kernel_rfl
def CutErr (aE aU:Addr) (L:List Int) (ae:Addr):Prop:=ae=if L.length=0 then aE else aU
abbrev hdZ:Value:=.agg #[.bool false,.int .u8 0,.int .u8 0,.int .u32 0,.int .u32 0]
def RdEnd (w:World) (bR:Nat) (rest pcs:Value) (at':Nat) (L ps:List Int) (g off n:Nat) (cs:Array Value) (t:TypeId) (w':World):Prop:=
 ∃(at'':Nat) (rest':Value) (cs':Array Value),RdS w' bR rest' pcs at'' (L.drop n) ps∧at''+(L.drop n).length≤at'+L.length∧w'.heap[g]? = some (.cells cs' t (0,0))∧Filled cs off (L.take n) cs'∧Kept (fun b=>b≠bR∧b≠g) w w' ∧ ∀K,inK K rest→inK K rest'
theorem RdS.below {w w':World} {bR:Nat} {rest pcs:Value} {at':Nat} {L ps:List Int} (h:RdS w bR rest pcs at' L ps) (hb:Below w.heap.size w w'):RdS w' bR rest pcs at' L ps:=⟨blk_below h.R hb,h.rest.below hb,h.pcs.below hb,h.lim⟩
theorem RdEnd.from {w w1 w2:World} {bR:Nat} {rest pcs:Value} {at':Nat} {L ps:List Int} {g off n:Nat} {cs:Array Value} {t:TypeId} (h:RdEnd w1 bR rest pcs at' L ps g off n cs t w2) (hk:Kept (fun b=>b≠bR∧b≠g) w w1):RdEnd w bR rest pcs at' L ps g off n cs t w2:=by
 obtain ⟨a,r,c,h1,h2,h3,h4,h5,h6⟩:=h
 exact ⟨a,r,c,h1,h2,h3,h4,hk.trans h5,h6⟩
def HdCut (aE aU:Addr) (w:World) (bR:Nat) (rest pcs:Value) (at':Nat) (L ps:List Int) (g off:Nat) (cs:Array Value) (t:TypeId) (e:Ending) (w':World):Prop:=
 (∃ae,e = .returned (.tuple #[hdZ,.iface 251 (.pointer (some ae))])∧CutErr aE aU L ae)∧RdEnd w bR rest pcs at' L ps g off 9 cs t w'
def HdOk (w:World) (bR:Nat) (rest pcs:Value) (at':Nat) (L ps:List Int) (g off:Nat) (cs:Array Value) (t:TypeId) (e:Ending) (w':World):Prop:=
 e = .returned (.tuple #[hdV (hdOf L).ty (hdOf L).fl (hdOf L).ln (hdOf L).st,.nilIface])∧RdEnd w bR rest pcs at' L ps g off 9 cs t w'
theorem RdEnd.to {w w1 w2:World} {bR:Nat} {rest pcs:Value} {at':Nat} {L ps:List Int} {g off n:Nat} {cs:Array Value} {t:TypeId} (h:RdEnd w bR rest pcs at' L ps g off n cs t w1) {q:Nat} (hk:Kept (· ≠ q) w1 w2) (hq:w.heap.size≤q) (hR:bR<w.heap.size) (hg:g<w.heap.size) (hr:inK (· < w.heap.size) rest) (hp:inK (· < w.heap.size) pcs) :
   RdEnd w bR rest pcs at' L ps g off n cs t w2:=by
 obtain ⟨a,r,c,h1,h2,h3,h4,h5,h6⟩:=h
 have hK:Kept (· < w.heap.size) w1 w2:=hk.mono fun k h _=>by omega
 exact ⟨a,r,c,⟨hK.at hR h1.R,h1.rest.kept hK (h6 _ hr),h1.pcs.kept hK hp,h1.lim⟩,h2,hK.at hg h3,h4,⟨(hk.os).trans h5.os,hk.tape.trans h5.tape,hk.output.trans h5.output,Nat.le_trans h5.size hk.size,fun k k1 k2=>(hk.block k (by omega) (Nat.lt_of_lt_of_le k2 h5.size)).trans (h5.block k k1 k2)⟩,h6⟩
section
variable {B : Nat} {aE aU aT : Addr} {w : World} {bR : Nat} {rest pcs : Value} {at' : Nat} {L ps : List Int} {g off n cap : Nat} {cs : Array Value} {t : TypeId}
theorem readFull_ok (hV:GV B w aE aU aT) (h:RdS w bR rest pcs at' L ps) (hlim:at'+L.length≤1000000000000) (hg:w.heap[g]? = some (.cells cs t (0,0))) (hfit:off+n≤cs.size)
   (hn:0<n) (hnc:n≤cap) (hcm:cap≤maxLen) (hgR:g≠bR) (hKr:inK (fun b=>b≠bR∧b≠g) rest) (hKp:inK (fun b=>b≠bR∧b≠g) pcs) (hBR:B≤bR) (hBg:B≤g) (hL:n≤L.length) :
   Calls Tryz.prog 82 #[.iface 69 (.pointer (some ⟨bR,0,none⟩)),.slice (some ⟨g,off,none⟩) n cap] w fun e w'=>e = .returned (.tuple #[.int .i64 (n:Int),.nilIface])∧RdEnd w bR rest pcs at' L ps g off n cs t w':=by
 refine (readFull_any hV h hlim g off n cap cs t hg hfit hn hnc hcm hgR hKr hKp hBR hBg).mono ?_
 rintro e w' ⟨a,r,c,k,ev,rfl,⟨hk,hev⟩,h1⟩
 rw [if_pos hL] at hev
 rw [Nat.min_eq_left hL] at hk
 subst hk;subst hev
 exact ⟨rfl,a,r,c,h1⟩
theorem readFull_cut (hV:GV B w aE aU aT) (h:RdS w bR rest pcs at' L ps) (hlim:at'+L.length≤1000000000000) (hg:w.heap[g]? = some (.cells cs t (0,0))) (hfit:off+n≤cs.size)
   (hn:0<n) (hnc:n≤cap) (hcm:cap≤maxLen) (hgR:g≠bR) (hKr:inK (fun b=>b≠bR∧b≠g) rest) (hKp:inK (fun b=>b≠bR∧b≠g) pcs) (hBR:B≤bR) (hBg:B≤g) (hL:¬n≤L.length) :
   Calls Tryz.prog 82 #[.iface 69 (.pointer (some ⟨bR,0,none⟩)),.slice (some ⟨g,off,none⟩) n cap] w fun e w'=>(∃ae,e = .returned (.tuple #[.int .i64 (L.length:Int),.iface 251 (.pointer (some ae))])∧CutErr aE aU L ae)∧RdEnd w bR rest pcs at' L ps g off n cs t w':=by
 refine (readFull_any hV h hlim g off n cap cs t hg hfit hn hnc hcm hgR hKr hKp hBR hBg).mono ?_
 rintro e w' ⟨a,r,c,k,ev,rfl,⟨hk,hev⟩,h1⟩
 rw [if_neg hL] at hev
 rw [Nat.min_eq_right (by omega)] at hk
 subst hk
 refine ⟨⟨if L.length=0 then aE else aU,?_,rfl⟩,a,r,c,h1⟩
 rw [hev]
 by_cases h0:L.length=0
 · simp only [if_pos h0]
 · simp only [if_neg h0]
theorem readFrameHeader_cut (hV:GV B w aE aU aT) (h:RdS w bR rest pcs at' L ps) (hlim:at'+L.length≤1000000000000) (hg:w.heap[g]? = some (.cells cs t (0,0))) (hfit:off+9≤cs.size) (hgR:g≠bR) (hKr:inK (fun b=>b≠bR∧b≠g) rest) (hKp:inK (fun b=>b≠bR∧b≠g) pcs) (hBR:B≤bR) (hBg:B≤g) (hrl:inK (· < w.heap.size) rest) (hpl:inK (· < w.heap.size) pcs) (hL:¬9≤L.length) :
   Calls Tryz.prog 79 #[.slice (some ⟨g,off,none⟩) 9 9,.iface 69 (.pointer (some ⟨bR,0,none⟩))] w (HdCut aE aU w bR rest pcs at' L ps g off cs t):=by
 have bW:Below w.heap.size w (w.alloc (.cells #[.bool false,.int .u8 0,.int .u8 0,.int .u32 0,.int .u32 0] 113)):=(((K0 w).alloc _).below (Nat.le_refl _))
 have kW:Kept (fun b=>b≠bR∧b≠g) w (w.alloc (.cells #[.bool false,.int .u8 0,.int .u8 0,.int .u32 0,.int .u32 0] 113)):=(Kept.refl _ w).alloc _
 have hgl:=lt_of_block hg
 have hRl:=lt_of_block h.R
 have hrf:=readFull_cut (hV.below bW) (h.below bW) hlim (blk_below hg bW) hfit (by omega) (Nat.le_refl _) (by unfold maxLen;omega) hgR hKr hKp hBR hBg hL
 have bz:=blk_new w (.cells #[.bool false,.int .u8 0,.int .u8 0,.int .u32 0,.int .u32 0] 113)
 clear hV h hKr hKp hg
 go_enter Tryz.func79,Tryz.ntmps79
 go_wp2_with (first
   | (go_at_call 82;refine hrf.mono ?_;rintro e w1 ⟨⟨ae,rfl,hae⟩,hend⟩;have b1:w1.heap[w.heap.size]? = _:=(hend.choose_spec.choose_spec.choose_spec.2.2.2.2.1).at (show w.heap.size≠bR∧w.heap.size≠g from ⟨by omega,by omega⟩) bz)
   | (refine wpList_store_blk rfl _ _ _ rfl w.heap.size rfl _ _ rfl 113 b1 rfl infoH (by simp [Value.oneCell']) ?_;intro w2 b2 k2))
 refine ret_blk2 rfl w.heap.size _ _ rfl b2 Tryz.underlying113 infoH rfl ⟨⟨ae,rfl,hae⟩,?_⟩
 exact (hend.from kW).to k2 (Nat.le_refl _) hRl hgl hrl hpl
theorem readFrameHeader_ok (hV:GV B w aE aU aT) (h:RdS w bR rest pcs at' L ps) (hb:Bs L) (hlim:at'+L.length≤1000000000000) (hg:w.heap[g]? = some (.cells cs t (0,0))) (hfit:off+9≤cs.size) (hgR:g≠bR) (hKr:inK (fun b=>b≠bR∧b≠g) rest) (hKp:inK (fun b=>b≠bR∧b≠g) pcs) (hBR:B≤bR) (hBg:B≤g) (hrl:inK (· < w.heap.size) rest) (hpl:inK (· < w.heap.size) pcs) (hL:9≤L.length) :
   Calls Tryz.prog 79 #[.slice (some ⟨g,off,none⟩) 9 9,.iface 69 (.pointer (some ⟨bR,0,none⟩))] w (HdOk w bR rest pcs at' L ps g off cs t):=by
 have bW:Below w.heap.size w (w.alloc (.cells #[.bool false,.int .u8 0,.int .u8 0,.int .u32 0,.int .u32 0] 113)):=(((K0 w).alloc _).below (Nat.le_refl _))
 have kW:Kept (fun b=>b≠bR∧b≠g) w (w.alloc (.cells #[.bool false,.int .u8 0,.int .u8 0,.int .u32 0,.int .u32 0] 113)):=(Kept.refl _ w).alloc _
 have hgl:=lt_of_block hg
 have hRl:=lt_of_block h.R
 have hrf:=readFull_ok (hV.below bW) (h.below bW) hlim (blk_below hg bW) hfit (by omega) (Nat.le_refl _) (by unfold maxLen;omega) hgR hKr hKp hBR hBg hL
 have bz:=blk_new w (.cells #[.bool false,.int .u8 0,.int .u8 0,.int .u32 0,.int .u32 0] 113)
 clear hV h hKr hKp hg
 go_enter Tryz.func79,Tryz.ntmps79
 go_wp2_with (go_at_call 82;refine hrf.mono ?_;rintro e w1 ⟨rfl,hend⟩)
 have b1:w1.heap[w.heap.size]? = _:=(hend.choose_spec.choose_spec.choose_spec.2.2.2.2.1).at (show w.heap.size≠bR∧w.heap.size≠g from ⟨by omega,by omega⟩) bz
 obtain ⟨cs2,hg1,hfil⟩:∃cs2,w1.heap[g]? = some (.cells cs2 t (0,0))∧Filled cs off (L.take 9) cs2:=⟨_,hend.choose_spec.choose_spec.choose_spec.2.2.1,hend.choose_spec.choose_spec.choose_spec.2.2.2.1⟩
 have hz1:w.heap.size<w1.heap.size:=lt_of_block b1
 have hj:∀j,j<9→w1.cell? ⟨g,off+j,none⟩=some (.int .u8 (gb L j)):=fun j hj=>by
   have e:(L.take 9)[j]? = some (gb L j):=by
     rw [List.getElem?_take_of_lt hj,List.getElem?_eq_getElem (show j<L.length by omega)]
     unfold gb
     rw [List.getD_eq_getElem?_getD,List.getElem?_eq_getElem (show j<L.length by omega)]
     rfl
   exact (blk_cell hg1 _).trans (hfil.at' j _ e)
 have k0:w1.cell? ⟨g,off,none⟩=some (.int .u8 (gb L 0)):=hj 0 (by omega)
 have k1:=hj 1 (by omega)
 have k2:=hj 2 (by omega)
 have k3:=hj 3 (by omega)
 have k4:=hj 4 (by omega)
 have hrd:RdB w1 (.slice (some ⟨g,off+5,none⟩) 4 4) ((L.take 9).drop 5):=by
   have hl:((L.take 9).drop 5).length=4:=by rw [List.length_drop,List.length_take];omega
   refine ⟨_,_,by rw [hl],by rw [hl];exact Nat.le_refl _,by unfold maxLen;omega,fun j x hx=>⟨g,off+5,rfl,?_⟩⟩
   rw [List.getElem?_drop] at hx
   rw [show off+5+j=off+(5+j) by omega]
   exact (blk_cell hg1 _).trans (hfil.at' _ x hx)
 have hu:Calls Tryz.prog 107 #[.agg #[],.slice (some ⟨g,off+5,none⟩) 4 4] w1.drew fun e w'=>e = .returned (.int .u32 (n32 L 5)) ∧ ∃n,(w1.drew.alloc (.cells #[] 231)).drewN n=w':=by
   have:=uint32_any (w:=w1.drew) hrd ((hb.take 9).drop 5) (by rw [List.length_drop,List.length_take];omega)
   rwa [n32_drop,show n32 (L.take 9) 5=n32 L 5 from by
     unfold n32 gb
     simp only [List.getD_eq_getElem?_getD]
     rw [List.getElem?_take_of_lt (by omega),List.getElem?_take_of_lt (by omega),List.getElem?_take_of_lt (by omega),List.getElem?_take_of_lt (by omega)]] at this
 have hs5:∀w,(Instr.slice 22 (.slice (some ⟨g,off,none⟩) 9 9) (some (.int .i64 5)) none none).run Tryz.prog w = .ok (.slice (some ⟨g,off+5,none⟩) 4 4) w:=fun w=>run_dropA (n:=5) E5.sl E5s (by omega) w
 have hv:=n32_bounds hb 5
 have hand:=u32_low (n32 L 5) hv.1 hv.2
 have g0:=hb.at 0
 have g1:=hb.at 1
 have g2:=hb.at 2
 have elen:(hdOf L).ln=gb L 0*65536+gb L 1*256+gb L 2:=rfl
 have est:(hdOf L).st=n32 L 5%2147483648:=rfl
 have ety:(hdOf L).ty=gb L 3:=rfl
 have efl:(hdOf L).fl=gb L 4:=rfl
 obtain ⟨x0,e0⟩:∃x,gb L 0=x:=⟨_,rfl⟩
 obtain ⟨x1,e1⟩:∃x,gb L 1=x:=⟨_,rfl⟩
 obtain ⟨x2,e2⟩:∃x,gb L 2=x:=⟨_,rfl⟩
 obtain ⟨x3,e3⟩:∃x,gb L 3=x:=⟨_,rfl⟩
 obtain ⟨x4,e4⟩:∃x,gb L 4=x:=⟨_,rfl⟩
 obtain ⟨v,ev⟩:∃x,n32 L 5=x:=⟨_,rfl⟩
 obtain ⟨y,ey⟩:∃x,v%2147483648=x:=⟨_,rfl⟩
 rw [e0] at k0 g0 elen
 rw [e1] at k1 g1 elen
 rw [e2] at k2 g2 elen
 rw [e3] at k3 ety
 rw [e4] at k4 efl
 rw [ev] at hu hand est
 rw [ey] at hand est
 have hret:hdV (hdOf L).ty (hdOf L).fl (hdOf L).ln (hdOf L).st=hdV x3 x4 (x0*65536+x1*256+x2) y:=by unfold hdV;rw [ety,efl,elen,est]
 have HR:=Lib.hid hret
 have wr0:=wrap_u32 g0.1 (by omega)
 have wr1:=wrap_u32 g1.1 (by omega)
 have wr2:=wrap_u32 g2.1 (by omega)
 have wr3:IntKind.u32.wrap (x0*65536)=x0*65536:=wrap_u32 (by omega) (by omega)
 have wr4:IntKind.u32.wrap (x1*256)=x1*256:=wrap_u32 (by omega) (by omega)
 have o1:bits .or .u32 (x0*65536) (x1*256)=x0*65536+x1*256:=u32_or_add' 16 (by omega) (by simp;omega) g0.1 (by simp;omega)
 have o2:bits .or .u32 (x0*65536+x1*256) x2=x0*65536+x1*256+x2:=by
   rw [show x0*65536+x1*256=(x0*256+x1)*((2 ^ 8:Nat):Int) by simp;omega]
   exact u32_or_add' 8 g2.1 (by simp;omega) (by omega) (by simp;omega)
 have c0:∀j,j<5→(w1.alloc (.cells #[] 231)).cell? ⟨w.heap.size,j,none⟩=(#[Value.bool false,.int .u8 0,.int .u8 0,.int .u32 0,.int .u32 0]:Array Value)[j]? := fun j _=>blk_cell (blk_alloc b1) j
 have f0:∀j,(w1.alloc (.cells #[] 231)).frozen? ⟨w.heap.size,j,none⟩=false:=fun j=>blk_free (blk_alloc b1) j
 have q0:(w1.alloc (.cells #[] 231)).cell? ⟨w.heap.size,0,none⟩=some (.bool false):=c0 0 (by omega)
 have q1:(w1.alloc (.cells #[] 231)).cell? ⟨w.heap.size,1,none⟩=some (.int .u8 0):=c0 1 (by omega)
 have q2:(w1.alloc (.cells #[] 231)).cell? ⟨w.heap.size,2,none⟩=some (.int .u8 0):=c0 2 (by omega)
 have q3:(w1.alloc (.cells #[] 231)).cell? ⟨w.heap.size,3,none⟩=some (.int .u32 0):=c0 3 (by omega)
 have q4:(w1.alloc (.cells #[] 231)).cell? ⟨w.heap.size,4,none⟩=some (.int .u32 0):=c0 4 (by omega)
 have hne:¬g=w.heap.size:=by omega
 have hne2:¬w.heap.size=g:=by omega
 clear c0 hj hret ety efl elen est e0 e1 e2 e3 e4 ev ey hrd hfil
 have HE:=Lib.hid hend
 clear hend
 go_region_held3 (fun w'=>w'.cell? ⟨g,off,none⟩=some (.int .u8 x0)∧w'.cell? ⟨g,off+1,none⟩=some (.int .u8 x1)∧w'.cell? ⟨g,off+2,none⟩=some (.int .u8 x2)∧w'.cell? ⟨g,off+3,none⟩=some (.int .u8 x3)∧w'.cell? ⟨g,off+4,none⟩=some (.int .u8 x4)) (go_keep)
   (first|(go_at_call 107;refine hu.mono ?_;rintro e w' ⟨rfl,nq,rfl⟩))
 all_goals
   go_wp2
   refine ret_blk2 rfl w.heap.size 113 #[.bool true,.int .u8 x3,.int .u8 x4,.int .u32 (x0*65536+x1*256+x2),.int .u32 y] rfl (by apply blkEqh;(iterate 24 (first|(with_reducible exact b1)|(with_reducible apply blk_set)|(with_reducible apply blk_drh)|(with_reducible apply blk_alloc)|skip));rfl) Tryz.underlying113 infoH rfl ⟨?_,?_⟩
   · rw [HR.out];rfl
   · refine (HE.out.from kW).to (q:=w.heap.size) ?_ (Nat.le_refl _) hRl hgl hrl hpl
     repeat (first|(with_reducible exact Kept.refl _ w1)|(with_reducible refine Kept.alloc ?_ _)|(with_reducible refine Kept.drawn ?_ _)|(with_reducible refine Kept.drew ?_)|(with_reducible refine Kept.setCell ?_ (by simp) _))
end
end Go.Proofs.YtfdlbjibninakaaGreatDoor

namespace Go.Proofs.YtfdlbjibninakaaGreatDoor
set_option maxRecDepth 10000
set_option maxHeartbeats 8000000
open Go.RowKit
theorem errorsNew_any (s:ByteArray) (w:World):Calls Tryz.prog 106 #[.string s] w fun e w'=>e = .returned (.iface 251 (.pointer (some ⟨w.heap.size,0,none⟩)))∧w.alloc (.cells #[.string s] 253)=w':=by
 go_enter Tryz.func106,Tryz.ntmps106
 go_wp2
 go_ret
 exact ⟨rfl,rfl⟩
section
variable {w : World} {bF cl bR : Nat} {lf rb : Value} {o m : Int} {cs : Array Value}
def FEnd (w:World) (bF cl bR:Nat) (lf:Value) (o m:Int) (rb:Value) (w':World):Prop:=
 ∃cs',w'.heap[bF]? = some (.cells cs' 86 (0,0))∧FS cs' cl bR lf o m rb∧Kept (· ≠ bF) w w'
theorem FEnd.from {w1 w':World} (h:FEnd w1 bF cl bR lf o m rb w') (hk:Kept (· ≠ bF) w w1):FEnd w bF cl bR lf o m rb w':=by
 obtain ⟨c,h1,h2,h3⟩:=h
 exact ⟨c,h1,h2,hk.trans h3⟩
theorem connError_any (hF:w.heap[bF]? = some (.cells cs 86 (0,0))) (h:FS cs cl bR lf o m rb) (c:Int) (s:ByteArray) :
   Calls Tryz.prog 84 #[.pointer (some ⟨bF,0,none⟩),.int .u32 c,.string s] w fun e w'=>e = .returned (.iface 117 (.int .u32 c))∧FEnd w bF cl bR lf o m rb w':=by
 obtain ⟨v2,hv2⟩:=h.some (i:=2) (by omega)
 have bF1:=blk_alloc (p:=.cells #[.string s] 253) hF
 have k2:=(blk_cell bF1 2).trans hv2
 have f2:=blk_free bF1 2
 have hne:¬bF=w.heap.size:=by have:=lt_of_block hF;omega
 go_enter Tryz.func84,Tryz.ntmps84
 go_wp2_with (go_at_call 106;refine (errorsNew_any _ _).mono ?_;rintro e w' ⟨rfl,rfl⟩)
 go_ret
 exact ⟨rfl,_,blk_set bF1 2 _,h.set (.inl rfl) _,((Kept.refl _ w).alloc _).setCell (fun h=>absurd rfl h) _⟩
def OrdEnd (w:World) (bF cl bR:Nat) (lf:Value) (o m:Int) (rb:Value) (h:Hd) (e:Ending) (w':World):Prop:=
 (ordBad o h=true∧e = .returned (.iface 117 (.int .u32 1))∧FEnd w bF cl bR lf o m rb w')∨(ordBad o h=false∧e = .returned .nilIface∧FEnd w bF cl bR lf (nextO o h) m rb w')
theorem order_any (hF:w.heap[bF]? = some (.cells cs 86 (0,0))) (h:FS cs cl bR lf o m rb) (ty fl ln st:Int) (hf0:0≤fl) (hf1:fl<256) :
   Calls Tryz.prog 81 #[.pointer (some ⟨bF,0,none⟩),hdV ty fl ln st] w (OrdEnd w bF cl bR lf o m rb ⟨ty,fl,ln,st⟩):=by
 obtain ⟨v5,hv5⟩:=h.some (i:=5) (by omega)
 have bF1:=blk_alloc (p:=.cells #[.bool true,.int .u8 ty,.int .u8 fl,.int .u32 ln,.int .u32 st] 113) hF
 have bH1:=blk_new w (.cells #[.bool true,.int .u8 ty,.int .u8 fl,.int .u32 ln,.int .u32 st] 113)
 have hne:¬bF=w.heap.size:=by have:=lt_of_block hF;omega
 have hne2:¬w.heap.size=bF:=fun e=>hne e.symm
 have k4:=(blk_cell bF1 4).trans h.c4
 have f4:=blk_free bF1 4
 have k5:=(blk_cell bF1 5).trans hv5
 have f5:=blk_free bF1 5
 have k22:=(blk_cell bF1 22).trans h.c22
 have kS:Kept (· ≠ bF) w ((w.alloc (.cells #[.bool true,.int .u8 ty,.int .u8 fl,.int .u32 ln,.int .u32 st] 113)).setCell ⟨bF,5,none⟩ (.int .u8 ty)):=((Kept.refl _ w).alloc _).setCell (fun h=>absurd rfl h) _
 by_cases ho:o=0
 · subst ho
   by_cases h9:ty=9
   · subst h9
     go_enter Tryz.func81,Tryz.ntmps81
     go_wp2_with (first|(go_at_call 84;refine (connError_any (cs:=cs.setIfInBounds 5 (.int .u8 _)) (by first|exact blk_set bF1 5 _|exact blk_drh (blk_set bF1 5 _) _) (h.set (.inr rfl) _) _ _).mono ?_;rintro e w' ⟨rfl,hend⟩)|(go_at_call 92;refine (has_any fl 4 (by simp) hf0 hf1 _).mono ?_;rintro e w' ⟨rfl,rfl⟩))
     go_ret
     exact .inl ⟨by unfold ordBad;rfl,rfl,hend.from (by first|exact kS|exact kS.drawn _)⟩
   have h9b:(ty==9)=false:=beq_false_of_ne h9
   have H9:=Lib.hid h9
   by_cases h1:ty=1
   · subst h1
     cases hbit:bitOf fl 4 with
     | true =>
       go_enter Tryz.func81,Tryz.ntmps81
       go_wp2_with (first|(go_at_call 84;refine (connError_any (cs:=cs.setIfInBounds 5 (.int .u8 _)) (by first|exact blk_set bF1 5 _|exact blk_drh (blk_set bF1 5 _) _) (h.set (.inr rfl) _) _ _).mono ?_;rintro e w' ⟨rfl,hend⟩)|(go_at_call 92;refine (has_any fl 4 (by simp) hf0 hf1 _).mono ?_;rintro e w' ⟨rfl,rfl⟩))
       go_ret
       refine .inr ⟨by unfold ordBad;rfl,rfl,?_⟩
       unfold nextO
       simp only [true_or,if_true,hbit]
       exact ⟨_,by first|exact blk_set (blk_set bF1 5 _) 4 _|exact blk_set (blk_drh (blk_set bF1 5 _) _) 4 _,(h.set (.inr rfl) _).setO _,by first|exact (((Kept.refl _ w).alloc _).setCell (fun h=>absurd rfl h) _).setCell (fun h=>absurd rfl h) _|exact ((((Kept.refl _ w).alloc _).setCell (fun h=>absurd rfl h) _).drawn _).setCell (fun h=>absurd rfl h) _⟩
     | false =>
       go_enter Tryz.func81,Tryz.ntmps81
       go_wp2_with (first|(go_at_call 84;refine (connError_any (cs:=cs.setIfInBounds 5 (.int .u8 _)) (by first|exact blk_set bF1 5 _|exact blk_drh (blk_set bF1 5 _) _) (h.set (.inr rfl) _) _ _).mono ?_;rintro e w' ⟨rfl,hend⟩)|(go_at_call 92;refine (has_any fl 4 (by simp) hf0 hf1 _).mono ?_;rintro e w' ⟨rfl,rfl⟩))
       go_ret
       refine .inr ⟨by unfold ordBad;rfl,rfl,?_⟩
       unfold nextO
       simp only [true_or,if_true,hbit,Bool.false_eq_true,if_false]
       exact ⟨_,by first|exact blk_set (blk_set bF1 5 _) 4 _|exact blk_set (blk_drh (blk_set bF1 5 _) _) 4 _,(h.set (.inr rfl) _).setO _,by first|exact (((Kept.refl _ w).alloc _).setCell (fun h=>absurd rfl h) _).setCell (fun h=>absurd rfl h) _|exact ((((Kept.refl _ w).alloc _).setCell (fun h=>absurd rfl h) _).drawn _).setCell (fun h=>absurd rfl h) _⟩
   have h1b:(ty==1)=false:=beq_false_of_ne h1
   have H1:=Lib.hid h1
   clear h1 h9
   go_enter Tryz.func81,Tryz.ntmps81
   go_wp2_with (first|(go_at_call 84;refine (connError_any (cs:=cs.setIfInBounds 5 (.int .u8 _)) (by first|exact blk_set bF1 5 _|exact blk_drh (blk_set bF1 5 _) _) (h.set (.inr rfl) _) _ _).mono ?_;rintro e w' ⟨rfl,hend⟩)|(go_at_call 92;refine (has_any fl 4 (by simp) hf0 hf1 _).mono ?_;rintro e w' ⟨rfl,rfl⟩))
   go_ret
   refine .inr ⟨by unfold ordBad;simpa using H9.out,rfl,?_⟩
   unfold nextO
   rw [if_neg (by have:=H9.out;have:=H1.out;simp only;omega)]
   exact ⟨_,by first|exact blk_set bF1 5 _|exact blk_set (blk_drh bF1 _) 5 _,h.set (.inr rfl) _,by first|exact (((Kept.refl _ w).alloc _).setCell (fun h=>absurd rfl h) _)|exact (((Kept.refl _ w).alloc _).setCell (fun h=>absurd rfl h) _).drawn _⟩
 have hob:(o != 0)=true:=by simp;exact ho
 have HO:=Lib.hid ho
 clear ho
 by_cases h9:ty=9
 · subst h9
   by_cases hso:st=o
   · subst hso
     have hsb:(st != st)=false:=by simp
     cases hbit:bitOf fl 4 with
     | true =>
       go_enter Tryz.func81,Tryz.ntmps81
       go_wp2_with (first|(go_at_call 84;refine (connError_any (cs:=cs.setIfInBounds 5 (.int .u8 _)) (by first|exact blk_set bF1 5 _|exact blk_drh (blk_set bF1 5 _) _) (h.set (.inr rfl) _) _ _).mono ?_;rintro e w' ⟨rfl,hend⟩)|(go_at_call 92;refine (has_any fl 4 (by simp) hf0 hf1 _).mono ?_;rintro e w' ⟨rfl,rfl⟩))
       go_quiet (fail)
       go_wp2_with (first|(go_at_call 84;refine (connError_any (cs:=cs.setIfInBounds 5 (.int .u8 _)) (by first|exact blk_set bF1 5 _|exact blk_drh (blk_set bF1 5 _) _) (h.set (.inr rfl) _) _ _).mono ?_;rintro e w' ⟨rfl,hend⟩)|(go_at_call 92;refine (has_any fl 4 (by simp) hf0 hf1 _).mono ?_;rintro e w' ⟨rfl,rfl⟩))
       go_ret
       refine .inr ⟨by unfold ordBad;rw [if_neg HO.out];simp,rfl,?_⟩
       unfold nextO
       simp only [or_true,if_true,hbit]
       exact ⟨_,by first|exact blk_set (blk_set bF1 5 _) 4 _|exact blk_set (blk_drh (blk_set bF1 5 _) _) 4 _,(h.set (.inr rfl) _).setO _,by first|exact (((Kept.refl _ w).alloc _).setCell (fun h=>absurd rfl h) _).setCell (fun h=>absurd rfl h) _|exact ((((Kept.refl _ w).alloc _).setCell (fun h=>absurd rfl h) _).drawn _).setCell (fun h=>absurd rfl h) _⟩
     | false =>
       go_enter Tryz.func81,Tryz.ntmps81
       go_wp2_with (first|(go_at_call 84;refine (connError_any (cs:=cs.setIfInBounds 5 (.int .u8 _)) (by first|exact blk_set bF1 5 _|exact blk_drh (blk_set bF1 5 _) _) (h.set (.inr rfl) _) _ _).mono ?_;rintro e w' ⟨rfl,hend⟩)|(go_at_call 92;refine (has_any fl 4 (by simp) hf0 hf1 _).mono ?_;rintro e w' ⟨rfl,rfl⟩))
       go_quiet (fail)
       go_wp2_with (first|(go_at_call 84;refine (connError_any (cs:=cs.setIfInBounds 5 (.int .u8 _)) (by first|exact blk_set bF1 5 _|exact blk_drh (blk_set bF1 5 _) _) (h.set (.inr rfl) _) _ _).mono ?_;rintro e w' ⟨rfl,hend⟩)|(go_at_call 92;refine (has_any fl 4 (by simp) hf0 hf1 _).mono ?_;rintro e w' ⟨rfl,rfl⟩))
       go_ret
       refine .inr ⟨by unfold ordBad;rw [if_neg HO.out];simp,rfl,?_⟩
       unfold nextO
       simp only [or_true,if_true,hbit,Bool.false_eq_true,if_false]
       exact ⟨_,by first|exact blk_set (blk_set bF1 5 _) 4 _|exact blk_set (blk_drh (blk_set bF1 5 _) _) 4 _,(h.set (.inr rfl) _).setO _,by first|exact (((Kept.refl _ w).alloc _).setCell (fun h=>absurd rfl h) _).setCell (fun h=>absurd rfl h) _|exact ((((Kept.refl _ w).alloc _).setCell (fun h=>absurd rfl h) _).drawn _).setCell (fun h=>absurd rfl h) _⟩
   have hsb:(st != o)=true:=by simp;exact hso
   have HS:=Lib.hid hso
   clear hso
   go_enter Tryz.func81,Tryz.ntmps81
   go_wp2_with (first|(go_at_call 84;refine (connError_any (cs:=cs.setIfInBounds 5 (.int .u8 _)) (by first|exact blk_set bF1 5 _|exact blk_drh (blk_set bF1 5 _) _) (h.set (.inr rfl) _) _ _).mono ?_;rintro e w' ⟨rfl,hend⟩)|(go_at_call 92;refine (has_any fl 4 (by simp) hf0 hf1 _).mono ?_;rintro e w' ⟨rfl,rfl⟩))
   go_quiet (fail)
   go_wp2_with (first|(go_at_call 84;refine (connError_any (cs:=cs.setIfInBounds 5 (.int .u8 _)) (by first|exact blk_set bF1 5 _|exact blk_drh (blk_set bF1 5 _) _) (h.set (.inr rfl) _) _ _).mono ?_;rintro e w' ⟨rfl,hend⟩)|(go_at_call 92;refine (has_any fl 4 (by simp) hf0 hf1 _).mono ?_;rintro e w' ⟨rfl,rfl⟩))
   go_ret
   exact .inl ⟨by unfold ordBad;rw [if_neg HO.out];simpa using HS.out,rfl,hend.from (by first|exact kS|exact kS.drawn _)⟩
 have h9b:(ty != 9)=true:=by simp;exact h9
 have H9:=Lib.hid h9
 clear h9
 go_enter Tryz.func81,Tryz.ntmps81
 go_wp2_with (first|(go_at_call 84;refine (connError_any (cs:=cs.setIfInBounds 5 (.int .u8 _)) (by first|exact blk_set bF1 5 _|exact blk_drh (blk_set bF1 5 _) _) (h.set (.inr rfl) _) _ _).mono ?_;rintro e w' ⟨rfl,hend⟩)|(go_at_call 92;refine (has_any fl 4 (by simp) hf0 hf1 _).mono ?_;rintro e w' ⟨rfl,rfl⟩))
 go_ret
 exact .inl ⟨by unfold ordBad;rw [if_neg HO.out];simp;exact .inl H9.out,rfl,hend.from (by first|exact kS|exact kS.drawn _)⟩
end
end Go.Proofs.YtfdlbjibninakaaGreatDoor

namespace Go.Proofs.YtfdlbjibninakaaGreatDoor
open Go.RowKit
def RbOk (K:Nat→Prop) (w:World) (rb:Value):Prop:=
 rb = .slice none 0 0 ∨ ∃g n cap bc,rb = .slice (some ⟨g,0,none⟩) n cap∧w.heap[g]? = some (.cells bc 5 (0,0))∧bc.size=cap∧n≤cap∧cap≤16777216 ∧ ¬K g
def LfOk (K:Nat→Prop) (w:World) (lf:Value):Prop:=
 lf = .nilIface ∨ ∃T p c t v,lf = .iface T (.pointer (some ⟨p,0,none⟩))∧FrT T∧w.heap[p]? = some (.cells c t (0,0))∧(t≠86∧t≠67∧t≠71∧t≠5∧t≠65)∧c[0]? = some (.bool v) ∧ ¬K p
structure RSt (B:Nat) (K:Nat→Prop) (aE aU aT:Addr) (w:World) (bF cl bR:Nat) (m o:Int) (L ps:List Int) (cs:Array Value) (lf rb rest pcs:Value) (at':Nat):Prop where
 V:GV B w aE aU aT
 F:w.heap[bF]? = some (.cells cs 86 (0,0))
 fs:FS cs cl bR lf o m rb
 C:w.heap[cl]? = some (.cells #[.pointer (some ⟨bF,0,none⟩)] 67 (0,0))
 R:RdS w bR rest pcs at' L ps
 lim:at'+L.length≤1000000000000
 bs:Bs L
 rk0:inK (· < B) rest
 pk0:inK (· < B) pcs
 rb:RbOk K w rb
 lf:LfOk K w lf
 kF:¬K bF
 kC:¬K cl
 kR:¬K bR
 lt:∀k,K k→k<w.heap.size
 gl:∀k,k<B→K k
 o0:0≤o
 m0:0≤m
 m1:m≤16777215
theorem ne_type {w:World} {a b:Nat} {c d:Array Value} {s t:TypeId} {f g:Nat × Nat} (h:w.heap[a]? = some (.cells c s f)) (k:w.heap[b]? = some (.cells d t g)) (hne:s≠t):a≠b:=fun e=>by
 subst e
 rw [h] at k
 cases k
 exact hne rfl
theorem inK.mono {K K':Nat→Prop} {v:Value} (h:inK K v) (hk:∀k,K k→K' k):inK K' v:=by
 cases v with
 | slice a n c=>cases a with
   | none=>trivial
   | some a=>exact h.imp id (hk _)
 | _=>trivial
section
variable {B : Nat} {K : Nat → Prop} {aE aU aT : Addr} {w w' : World} {bF cl bR : Nat} {m o o' : Int} {L L' ps : List Int} {cs cs' : Array Value} {lf rb rest rest' pcs : Value} {at' at'' : Nat}
theorem RSt.FR (h:RSt B K aE aU aT w bF cl bR m o L ps cs lf rb rest pcs at'):bF≠bR:=ne_type h.F h.R.R (by decide)
theorem RSt.FC (h:RSt B K aE aU aT w bF cl bR m o L ps cs lf rb rest pcs at'):bF≠cl:=ne_type h.F h.C (by decide)
theorem RSt.CR (h:RSt B K aE aU aT w bF cl bR m o L ps cs lf rb rest pcs at'):cl≠bR:=ne_type h.C h.R.R (by decide)
theorem RSt.BF (h:RSt B K aE aU aT w bF cl bR m o L ps cs lf rb rest pcs at'):B≤bF:=Nat.le_of_not_lt fun e=>h.kF (h.gl _ e)
theorem RSt.BR (h:RSt B K aE aU aT w bF cl bR m o L ps cs lf rb rest pcs at'):B≤bR:=Nat.le_of_not_lt fun e=>h.kR (h.gl _ e)
theorem RSt.rk (h:RSt B K aE aU aT w bF cl bR m o L ps cs lf rb rest pcs at'):inK K rest:=h.rk0.mono h.gl
theorem RSt.pk (h:RSt B K aE aU aT w bF cl bR m o L ps cs lf rb rest pcs at'):inK K pcs:=h.pk0.mono h.gl
theorem RSt.rkR (h:RSt B K aE aU aT w bF cl bR m o L ps cs lf rb rest pcs at') {g:Nat} (hg:¬K g):inK (fun b=>b≠bR∧b≠g) rest:=inK.mono h.rk fun _ hk=>⟨fun e=>h.kR (e▸hk),fun e=>hg (e▸hk)⟩
theorem RSt.pkR (h:RSt B K aE aU aT w bF cl bR m o L ps cs lf rb rest pcs at') {g:Nat} (hg:¬K g):inK (fun b=>b≠bR∧b≠g) pcs:=inK.mono h.pk fun _ hk=>⟨fun e=>h.kR (e▸hk),fun e=>hg (e▸hk)⟩
theorem RbOk.kept {rb:Value} (h:RbOk K w rb) {J:Nat→Prop} (hk:Kept J w w') (hj:∀g n c,rb = .slice (some ⟨g,0,none⟩) n c→J g):RbOk K w' rb:=by
 rcases h with h|⟨g,n,cap,bc,rfl,h1,h2,h3,h4,h5⟩
 · exact .inl h
 · exact .inr ⟨g,n,cap,bc,rfl,hk.at (hj _ _ _ rfl) h1,h2,h3,h4,h5⟩
theorem LfOk.kept {lf:Value} (h:LfOk K w lf) {J:Nat→Prop} (hk:Kept J w w') (hj:∀T p,lf = .iface T (.pointer (some ⟨p,0,none⟩))→J p):LfOk K w' lf:=by
 rcases h with h|⟨T,p,c,t,v,rfl,h1,h2,h3,h4,h5⟩
 · exact .inl h
 · exact .inr ⟨T,p,c,t,v,rfl,h1,hk.at (hj _ _ rfl) h2,h3,h4,h5⟩
theorem RSt.rbNe (h:RSt B K aE aU aT w bF cl bR m o L ps cs lf rb rest pcs at') {g n c:Nat} (e:rb = .slice (some ⟨g,0,none⟩) n c):g≠bF∧g≠cl∧g≠bR:=by
 rcases h.rb with h1|⟨g',n',cap,bc,e',h1,-⟩
 · rw [h1] at e;cases e
 · rw [e'] at e;cases e
   exact ⟨ne_type h1 h.F (by decide),ne_type h1 h.C (by decide),ne_type h1 h.R.R (by decide)⟩
theorem RSt.lfNe (h:RSt B K aE aU aT w bF cl bR m o L ps cs lf rb rest pcs at') {T p:Nat} (e:lf = .iface T (.pointer (some ⟨p,0,none⟩))):p≠bF∧p≠cl∧p≠bR ∧ ∀g n c,rb = .slice (some ⟨g,0,none⟩) n c→p≠g:=by
 rcases h.lf with h1|⟨T',p',c,t,v,e',h0,h1,⟨t1,t2,t3,t4,_⟩,-⟩
 · rw [h1] at e;cases e
 · rw [e'] at e;cases e
   refine ⟨ne_type h1 h.F t1,ne_type h1 h.C t2,ne_type h1 h.R.R t3,fun g n c e => ?_⟩
   rcases h.rb with h2|⟨g',n',cap,bc,e2,h2,-⟩
   · rw [h2] at e;cases e
   · rw [e2] at e;cases e
     exact ne_type h1 h2 t4
theorem Kept.onK {J:Nat→Prop} (hk:Kept J w w') (hj:∀k,K k→J k):Kept K w w':=hk.mono fun k h _=>hj k h
theorem RSt.step (h:RSt B K aE aU aT w bF cl bR m o L ps cs lf rb rest pcs at') (hk:Kept (fun b=>b≠bR∧b≠bF) w w') (F:w'.heap[bF]? = some (.cells cs' 86 (0,0))) (fs:FS cs' cl bR lf o' m rb)
   (R:RdS w' bR rest' pcs at'' L' ps) (lim:at''+L'.length≤1000000000000) (bs:Bs L') (rk:inK (· < B) rest') (o0:0≤o'):RSt B K aE aU aT w' bF cl bR m o' L' ps cs' lf rb rest' pcs at'':=by
 have hF:=h.BF
 have hR:=h.BR
 exact ⟨h.V.kept hk (fun k hk=>⟨by omega,by omega⟩),F,fs,hk.at ⟨h.CR,Ne.symm h.FC⟩ h.C,R,lim,bs,rk,h.pk0,h.rb.kept hk (fun g n c e=>⟨(h.rbNe e).2.2,(h.rbNe e).1⟩),h.lf.kept hk (fun T p e=>⟨(h.lfNe e).2.2.1,(h.lfNe e).1⟩),h.kF,h.kC,h.kR,fun k hkk=>Nat.lt_of_lt_of_le (h.lt k hkk) hk.size,h.gl,o0,h.m0,h.m1⟩
theorem RSt.below (h:RSt B K aE aU aT w bF cl bR m o L ps cs lf rb rest pcs at') (hb:Below w.heap.size w w'):RSt B K aE aU aT w' bF cl bR m o L ps cs lf rb rest pcs at':=
 ⟨h.V.below hb,blk_below h.F hb,h.fs,blk_below h.C hb,h.R.below hb,h.lim,h.bs,h.rk0,h.pk0,h.rb.kept (Kept.all (K:=fun _=>True) hb) (fun _ _ _ _=>trivial),h.lf.kept (Kept.all (K:=fun _=>True) hb) (fun _ _ _=>trivial),h.kF,h.kC,h.kR,fun k hkk=>Nat.lt_of_lt_of_le (h.lt k hkk) hb.size,h.gl,h.o0,h.m0,h.m1⟩
theorem RSt.fend (h:RSt B K aE aU aT w bF cl bR m o L ps cs lf rb rest pcs at') (hf:FEnd w bF cl bR lf o' m rb w') (o0:0≤o'):∃cs',RSt B K aE aU aT w' bF cl bR m o' L ps cs' lf rb rest pcs at':=by
 obtain ⟨cs',F,fs,hk⟩:=hf
 have hkk:Kept K w w':=hk.onK fun k hk e=>h.kF (e▸hk)
 exact ⟨cs',h.step (hk.mono fun k h _=>h.2) F fs ⟨hk.at (Ne.symm h.FR) h.R.R,h.R.rest.kept hkk h.rk,h.R.pcs.kept hkk h.pk,h.R.lim⟩ h.lim h.bs h.rk0 o0⟩
theorem RSt.rdHead (h:RSt B K aE aU aT w bF cl bR m o L ps cs lf rb rest pcs at') (hr:RdEnd w bR rest pcs at' L ps bF 7 9 cs 86 w'):∃cs' rest' at'',RSt B K aE aU aT w' bF cl bR m o (L.drop 9) ps cs' lf rb rest' pcs at'':=by
 obtain ⟨at2,rest2,cs2,h1,h2,h3,h4,h5,h6⟩:=hr
 exact ⟨cs2,rest2,at2,h.step h5 h3 (h.fs.filled h4 (by rw [List.length_take];omega)) h1 (by have:=h.lim;omega) (h.bs.drop 9) (h6 (· < B) h.rk0) h.o0⟩
theorem RSt.keptHead (h:RSt B K aE aU aT w bF cl bR m o L ps cs lf rb rest pcs at') (hr:RdEnd w bR rest pcs at' L ps bF 7 9 cs 86 w'):Kept K w w':=by
 obtain ⟨at2,rest2,cs2,h1,h2,h3,h4,h5,h6⟩:=hr
 exact h5.onK fun k hk=>⟨fun e=>h.kR (e▸hk),fun e=>h.kF (e▸hk)⟩
theorem FEnd.onK (hf:FEnd w bF cl bR lf o' m rb w') (hk:¬K bF):Kept K w w':=by
 obtain ⟨cs',F,fs,h⟩:=hf
 exact h.onK fun k hk' e=>hk (e▸hk')
end
end Go.Proofs.YtfdlbjibninakaaGreatDoor

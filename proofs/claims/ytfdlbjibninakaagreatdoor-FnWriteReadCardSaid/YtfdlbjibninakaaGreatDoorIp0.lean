/- impl.plain: what it calls: clone, the accessors of the frames, Header, prior. -/
import Derived.Test.YtfdlbjibninakaaGreatDoorPs8
import Derived.Test.YtfdlbjibninakaaGreatDoorCf
set_option linter.unusedVariables false
set_option linter.unusedSimpArgs false
namespace Go.Proofs.YtfdlbjibninakaaGreatDoor
set_option maxRecDepth 10000
set_option maxHeartbeats 4000000
open Go.RowKit
theorem row_empty {w:World} {b:Nat} (h:w.heap[b]? = some (.cells #[] 5 (0,0))):Row w 5 1 (.slice (some ⟨b,0,none⟩) 0 0) 0 (bv []):=
 ⟨rfl,.inr ⟨b,0,#[],rfl,Nat.zero_le _,h,Nat.le_refl _,Nat.zero_le _,rfl,rfl⟩⟩
theorem clone_any (v:Value) (l:List Int) (w:World) (h:RdB w v l) (hl:l.length≤100000000):Calls Tryz.prog 50 #[v] w (RetB w l):=by
 have h1:=h.below (w':=w.alloc (.cells #[] 5)) (((Kept.refl (· < w.heap.size) w).alloc _).below (Nat.le_refl _))
 go_enter Tryz.func50,Tryz.ntmps50
 go_wp2_with (at_builtin;refine wpList_app E5 rfl _ _ rfl (.slice (some ⟨w.heap.size,0,none⟩) 0 0) 0 _ rfl (row_empty (blk_new w _)) l.length _ (src_of_rd h1) (by omega) (by unfold maxLen;omega) ?_;intro a' c' w1 hown hgrow hat)
 go_ret
 refine ⟨_,rfl,((Kept.refl (· < w.heap.size) w).alloc _).grown hgrow (fun k hk h=>by simp [Value.ownBlock] at hk;omega) |>.below (Nat.le_refl _),?_,?_⟩
 · simpa [bv] using hown
 · simp only [Nat.zero_add] at hat
   exact (show Fresh w.heap.size (.slice (some ⟨w.heap.size,0,none⟩) 0 0) from fun g hg=>by simp [Value.ownBlock] at hg;omega).app (by simp) hat
structure FrC (w:World) (p:Nat) (h:Hd):Prop where
 c0:w.cell? ⟨p,0,none⟩=some (.bool true)
 c1:w.cell? ⟨p,1,none⟩=some (.int .u8 h.ty)
 c2:w.cell? ⟨p,2,none⟩=some (.int .u8 h.fl)
 c3:w.cell? ⟨p,3,none⟩=some (.int .u32 h.ln)
 c4:w.cell? ⟨p,4,none⟩=some (.int .u32 h.st)
theorem FrC.below {w w':World} {p:Nat} {h:Hd} (g:FrC w p h) (hb:Below w.heap.size w w'):FrC w' p h:=⟨cell_below g.c0 hb,cell_below g.c1 hb,cell_below g.c2 hb,cell_below g.c3 hb,cell_below g.c4 hb⟩
theorem infoFH:(Tryz.prog.info? 113).map (·.size)=some 5:=by kernel_rfl
theorem FrC.load {w:World} {p:Nat} {h:Hd} (g:FrC w p h):(loadVar 113 ⟨p,0,none⟩).run Tryz.prog w = .ok (.agg #[.bool true,.int .u8 h.ty,.int .u8 h.fl,.int .u32 h.ln,.int .u32 h.st]) w:=by
 refine run_loadVar_at w p 0 _ #[.bool true,.int .u8 h.ty,.int .u8 h.fl,.int .u32 h.ln,.int .u32 h.st] (fun j v hj => ?_) Tryz.underlying113 infoFH
 match j with
 | 0=>simp at hj;subst hj;exact g.c0
 | 1=>simp at hj;subst hj;exact g.c1
 | 2=>simp at hj;subst hj;exact g.c2
 | 3=>simp at hj;subst hj;exact g.c3
 | 4=>simp at hj;subst hj;exact g.c4
 | j+5=>simp at hj
theorem header_any (cs:Array Value) (b:Bool) (ty fl ln st:Int) (w:World) (hcs:cs = #[.bool b,.int .u8 ty,.int .u8 fl,.int .u32 ln,.int .u32 st]):Calls Tryz.prog 149 #[.agg cs] w fun e w'=>e = .returned (.agg cs)∧Below w.heap.size w w':=by
 have hs:cs.size=5:=by rw [hcs];rfl
 have h1:∀u∈cs.toList,u.oneCell'=true:=by rw [hcs];simp [Value.oneCell']
 clear hcs
 have hi:(Tryz.prog.info? 113).map (·.size)=some cs.size:=by rw [hs];exact infoFH
 go_enter Tryz.func149,Tryz.ntmps149
 go_wp2_with (first
   | (refine wpList_load_blk rfl _ _ rfl w.heap.size rfl cs 113 (blk_alloc (blk_at _ _ rfl)) Tryz.underlying113 hi ?_)
   | (refine wpList_store_blk rfl _ _ _ rfl (w.heap.size+1) rfl cs _ rfl 113 (blk_at _ _ (by simp)) hs hi h1 ?_;intro w1 hb1 hk1))
 refine ret_blk rfl (w.heap.size+1) _ _ rfl hb1 Tryz.underlying113 hi rfl ⟨rfl,?_⟩
 exact (((Kept.refl (· < w.heap.size) w).alloc _).alloc _).trans (hk1.mono fun k h _=>by omega) |>.below (Nat.le_refl _)
theorem hm_DataFrame (x:Addr) (w:World):(method 391 126 (.pointer (some x)) "Header").run Tryz.prog w=(do let v ←loadVar 113 x;pure (149,v):Sem (FuncId × Value)).run Tryz.prog w:=by kernel_rfl
theorem hd_DataFrame {w:World} {p:Nat} {h:Hd} (g:FrC w p h):(method 391 126 (.pointer (some ⟨p,0,none⟩)) "Header").run Tryz.prog w = .ok (149,.agg #[.bool true,.int .u8 h.ty,.int .u8 h.fl,.int .u32 h.ln,.int .u32 h.st]) w:=by
 rw [hm_DataFrame,Sem.run_bind,g.load];rfl
theorem hm_HeadersFrame (x:Addr) (w:World):(method 391 129 (.pointer (some x)) "Header").run Tryz.prog w=(do let v ←loadVar 113 x;pure (149,v):Sem (FuncId × Value)).run Tryz.prog w:=by kernel_rfl
theorem hd_HeadersFrame {w:World} {p:Nat} {h:Hd} (g:FrC w p h):(method 391 129 (.pointer (some ⟨p,0,none⟩)) "Header").run Tryz.prog w = .ok (149,.agg #[.bool true,.int .u8 h.ty,.int .u8 h.fl,.int .u32 h.ln,.int .u32 h.st]) w:=by
 rw [hm_HeadersFrame,Sem.run_bind,g.load];rfl
theorem hm_PriorityFrame (x:Addr) (w:World):(method 391 136 (.pointer (some x)) "Header").run Tryz.prog w=(do let v ←loadVar 113 x;pure (149,v):Sem (FuncId × Value)).run Tryz.prog w:=by kernel_rfl
theorem hd_PriorityFrame {w:World} {p:Nat} {h:Hd} (g:FrC w p h):(method 391 136 (.pointer (some ⟨p,0,none⟩)) "Header").run Tryz.prog w = .ok (149,.agg #[.bool true,.int .u8 h.ty,.int .u8 h.fl,.int .u32 h.ln,.int .u32 h.st]) w:=by
 rw [hm_PriorityFrame,Sem.run_bind,g.load];rfl
theorem hm_RSTStreamFrame (x:Addr) (w:World):(method 391 139 (.pointer (some x)) "Header").run Tryz.prog w=(do let v ←loadVar 113 x;pure (149,v):Sem (FuncId × Value)).run Tryz.prog w:=by kernel_rfl
theorem hd_RSTStreamFrame {w:World} {p:Nat} {h:Hd} (g:FrC w p h):(method 391 139 (.pointer (some ⟨p,0,none⟩)) "Header").run Tryz.prog w = .ok (149,.agg #[.bool true,.int .u8 h.ty,.int .u8 h.fl,.int .u32 h.ln,.int .u32 h.st]) w:=by
 rw [hm_RSTStreamFrame,Sem.run_bind,g.load];rfl
theorem hm_SettingsFrame (x:Addr) (w:World):(method 391 142 (.pointer (some x)) "Header").run Tryz.prog w=(do let v ←loadVar 113 x;pure (149,v):Sem (FuncId × Value)).run Tryz.prog w:=by kernel_rfl
theorem hd_SettingsFrame {w:World} {p:Nat} {h:Hd} (g:FrC w p h):(method 391 142 (.pointer (some ⟨p,0,none⟩)) "Header").run Tryz.prog w = .ok (149,.agg #[.bool true,.int .u8 h.ty,.int .u8 h.fl,.int .u32 h.ln,.int .u32 h.st]) w:=by
 rw [hm_SettingsFrame,Sem.run_bind,g.load];rfl
theorem hm_PushPromiseFrame (x:Addr) (w:World):(method 391 149 (.pointer (some x)) "Header").run Tryz.prog w=(do let v ←loadVar 113 x;pure (149,v):Sem (FuncId × Value)).run Tryz.prog w:=by kernel_rfl
theorem hd_PushPromiseFrame {w:World} {p:Nat} {h:Hd} (g:FrC w p h):(method 391 149 (.pointer (some ⟨p,0,none⟩)) "Header").run Tryz.prog w = .ok (149,.agg #[.bool true,.int .u8 h.ty,.int .u8 h.fl,.int .u32 h.ln,.int .u32 h.st]) w:=by
 rw [hm_PushPromiseFrame,Sem.run_bind,g.load];rfl
theorem hm_PingFrame (x:Addr) (w:World):(method 391 152 (.pointer (some x)) "Header").run Tryz.prog w=(do let v ←loadVar 113 x;pure (149,v):Sem (FuncId × Value)).run Tryz.prog w:=by kernel_rfl
theorem hd_PingFrame {w:World} {p:Nat} {h:Hd} (g:FrC w p h):(method 391 152 (.pointer (some ⟨p,0,none⟩)) "Header").run Tryz.prog w = .ok (149,.agg #[.bool true,.int .u8 h.ty,.int .u8 h.fl,.int .u32 h.ln,.int .u32 h.st]) w:=by
 rw [hm_PingFrame,Sem.run_bind,g.load];rfl
theorem hm_GoAwayFrame (x:Addr) (w:World):(method 391 156 (.pointer (some x)) "Header").run Tryz.prog w=(do let v ←loadVar 113 x;pure (149,v):Sem (FuncId × Value)).run Tryz.prog w:=by kernel_rfl
theorem hd_GoAwayFrame {w:World} {p:Nat} {h:Hd} (g:FrC w p h):(method 391 156 (.pointer (some ⟨p,0,none⟩)) "Header").run Tryz.prog w = .ok (149,.agg #[.bool true,.int .u8 h.ty,.int .u8 h.fl,.int .u32 h.ln,.int .u32 h.st]) w:=by
 rw [hm_GoAwayFrame,Sem.run_bind,g.load];rfl
theorem hm_WindowUpdateFrame (x:Addr) (w:World):(method 391 159 (.pointer (some x)) "Header").run Tryz.prog w=(do let v ←loadVar 113 x;pure (149,v):Sem (FuncId × Value)).run Tryz.prog w:=by kernel_rfl
theorem hd_WindowUpdateFrame {w:World} {p:Nat} {h:Hd} (g:FrC w p h):(method 391 159 (.pointer (some ⟨p,0,none⟩)) "Header").run Tryz.prog w = .ok (149,.agg #[.bool true,.int .u8 h.ty,.int .u8 h.fl,.int .u32 h.ln,.int .u32 h.st]) w:=by
 rw [hm_WindowUpdateFrame,Sem.run_bind,g.load];rfl
theorem hm_ContinuationFrame (x:Addr) (w:World):(method 391 162 (.pointer (some x)) "Header").run Tryz.prog w=(do let v ←loadVar 113 x;pure (149,v):Sem (FuncId × Value)).run Tryz.prog w:=by kernel_rfl
theorem hd_ContinuationFrame {w:World} {p:Nat} {h:Hd} (g:FrC w p h):(method 391 162 (.pointer (some ⟨p,0,none⟩)) "Header").run Tryz.prog w = .ok (149,.agg #[.bool true,.int .u8 h.ty,.int .u8 h.fl,.int .u32 h.ln,.int .u32 h.st]) w:=by
 rw [hm_ContinuationFrame,Sem.run_bind,g.load];rfl
theorem hm_PriorityUpdateFrame (x:Addr) (w:World):(method 391 163 (.pointer (some x)) "Header").run Tryz.prog w=(do let v ←loadVar 113 x;pure (149,v):Sem (FuncId × Value)).run Tryz.prog w:=by kernel_rfl
theorem hd_PriorityUpdateFrame {w:World} {p:Nat} {h:Hd} (g:FrC w p h):(method 391 163 (.pointer (some ⟨p,0,none⟩)) "Header").run Tryz.prog w = .ok (149,.agg #[.bool true,.int .u8 h.ty,.int .u8 h.fl,.int .u32 h.ln,.int .u32 h.st]) w:=by
 rw [hm_PriorityUpdateFrame,Sem.run_bind,g.load];rfl
theorem hm_UnknownFrame (x:Addr) (w:World):(method 391 166 (.pointer (some x)) "Header").run Tryz.prog w=(do let v ←loadVar 113 x;pure (149,v):Sem (FuncId × Value)).run Tryz.prog w:=by kernel_rfl
theorem hd_UnknownFrame {w:World} {p:Nat} {h:Hd} (g:FrC w p h):(method 391 166 (.pointer (some ⟨p,0,none⟩)) "Header").run Tryz.prog w = .ok (149,.agg #[.bool true,.int .u8 h.ty,.int .u8 h.fl,.int .u32 h.ln,.int .u32 h.st]) w:=by
 rw [hm_UnknownFrame,Sem.run_bind,g.load];rfl
theorem acc_DataFrame {w:World} {p:Nat} {a:Option Addr} {n c:Nat} (h0:w.cell? ⟨p,0,none⟩=some (.bool true)) (h1:w.cell? ⟨p,5,none⟩=some (.slice a n c)):Calls Tryz.prog 51 #[.pointer (some ⟨p,0,none⟩)] w fun e w'=>e = .returned (.slice a n c)∧w=w':=by
 have hcv:=checkValid_any h0
 go_enter Tryz.func51,Tryz.ntmps51
 go_wp2_with (go_at_call 91;refine hcv.mono ?_;rintro e w' ⟨rfl,rfl⟩)
 go_ret
 exact ⟨rfl,rfl⟩
theorem acc_HeadersFrame {w:World} {p:Nat} {a:Option Addr} {n c:Nat} (h0:w.cell? ⟨p,0,none⟩=some (.bool true)) (h1:w.cell? ⟨p,10,none⟩=some (.slice a n c)):Calls Tryz.prog 52 #[.pointer (some ⟨p,0,none⟩)] w fun e w'=>e = .returned (.slice a n c)∧w=w':=by
 have hcv:=checkValid_any h0
 go_enter Tryz.func52,Tryz.ntmps52
 go_wp2_with (go_at_call 91;refine hcv.mono ?_;rintro e w' ⟨rfl,rfl⟩)
 go_ret
 exact ⟨rfl,rfl⟩
theorem acc_PushPromiseFrame {w:World} {p:Nat} {a:Option Addr} {n c:Nat} (h0:w.cell? ⟨p,0,none⟩=some (.bool true)) (h1:w.cell? ⟨p,6,none⟩=some (.slice a n c)):Calls Tryz.prog 57 #[.pointer (some ⟨p,0,none⟩)] w fun e w'=>e = .returned (.slice a n c)∧w=w':=by
 have hcv:=checkValid_any h0
 go_enter Tryz.func57,Tryz.ntmps57
 go_wp2_with (go_at_call 91;refine hcv.mono ?_;rintro e w' ⟨rfl,rfl⟩)
 go_ret
 exact ⟨rfl,rfl⟩
theorem acc_GoAwayFrame {w:World} {p:Nat} {a:Option Addr} {n c:Nat} (h0:w.cell? ⟨p,0,none⟩=some (.bool true)) (h1:w.cell? ⟨p,7,none⟩=some (.slice a n c)):Calls Tryz.prog 58 #[.pointer (some ⟨p,0,none⟩)] w fun e w'=>e = .returned (.slice a n c)∧w=w':=by
 have hcv:=checkValid_any h0
 go_enter Tryz.func58,Tryz.ntmps58
 go_wp2_with (go_at_call 91;refine hcv.mono ?_;rintro e w' ⟨rfl,rfl⟩)
 go_ret
 exact ⟨rfl,rfl⟩
theorem acc_ContinuationFrame {w:World} {p:Nat} {a:Option Addr} {n c:Nat} (h0:w.cell? ⟨p,0,none⟩=some (.bool true)) (h1:w.cell? ⟨p,5,none⟩=some (.slice a n c)):Calls Tryz.prog 59 #[.pointer (some ⟨p,0,none⟩)] w fun e w'=>e = .returned (.slice a n c)∧w=w':=by
 have hcv:=checkValid_any h0
 go_enter Tryz.func59,Tryz.ntmps59
 go_wp2_with (go_at_call 91;refine hcv.mono ?_;rintro e w' ⟨rfl,rfl⟩)
 go_ret
 exact ⟨rfl,rfl⟩
theorem acc_UnknownFrame {w:World} {p:Nat} {a:Option Addr} {n c:Nat} (h0:w.cell? ⟨p,0,none⟩=some (.bool true)) (h1:w.cell? ⟨p,5,none⟩=some (.slice a n c)):Calls Tryz.prog 60 #[.pointer (some ⟨p,0,none⟩)] w fun e w'=>e = .returned (.slice a n c)∧w=w':=by
 have hcv:=checkValid_any h0
 go_enter Tryz.func60,Tryz.ntmps60
 go_wp2_with (go_at_call 91;refine hcv.mono ?_;rintro e w' ⟨rfl,rfl⟩)
 go_ret
 exact ⟨rfl,rfl⟩
theorem hasPrio_any {w:World} {p:Nat} {fl:Int} (h0:0≤fl) (h1:fl<256) (h2:w.cell? ⟨p,2,none⟩=some (.int .u8 fl)):Calls Tryz.prog 53 #[.pointer (some ⟨p,0,none⟩)] w fun e w'=>e = .returned (.bool (bitOf fl 32))∧w=w':=by
 have hh:=has_any fl 32 (by decide) h0 h1 w
 go_enter Tryz.func53,Tryz.ntmps53
 go_wp2_with (go_at_call 92;refine hh.mono ?_;rintro e w' ⟨rfl,rfl⟩)
 go_ret
 exact ⟨rfl,rfl⟩
end Go.Proofs.YtfdlbjibninakaaGreatDoor

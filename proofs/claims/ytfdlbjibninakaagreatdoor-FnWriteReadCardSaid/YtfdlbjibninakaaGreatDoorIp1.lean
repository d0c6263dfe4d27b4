/- impl.plain: a frame of the package as plain data. -/
import Derived.Test.YtfdlbjibninakaaGreatDoorIp0
import Derived.Outline
import Derived.RegionTactic
set_option linter.unusedVariables false
set_option linter.unusedSimpArgs false
namespace Go.Proofs.YtfdlbjibninakaaGreatDoor
set_option maxRecDepth 10000
set_option maxHeartbeats 8000000
open Go.RowKit
def PlnEnd (w:World) (x:Fr) (e:Ending) (w':World):Prop := ∃dv sv,e = .returned (.agg (frX x dv sv))∧Below w.heap.size w w'∧RdB w' dv x.data∧inK (w.heap.size ≤ ·) dv∧RdP w' sv x.set∧inK (w.heap.size ≤ ·) sv
structure HdB (h:Hd):Prop where
 t0:0≤h.ty
 t1:h.ty<256
 f0:0≤h.fl
 f1:h.fl<256
 l0:0≤h.ln
 l1:h.ln≤16777215
theorem below_new {w1 w2:World} {o:Obj} (k:Kept (· ≠ w1.heap.size) (w1.alloc o) w2):Below w1.heap.size w1 w2:=((Kept.refl (· < w1.heap.size) w1).alloc _).trans (k.mono fun _ h _=>Nat.ne_of_lt h) |>.below (Nat.le_refl _)
theorem Below.step {w w1 w2:World} (h:Below w.heap.size w w1) (g:Below w1.heap.size w1 w2):Below w.heap.size w w2:=Below.then h (Nat.le_refl _) g
theorem blk_to {w:World} {b:Nat} {cs cs':Array Value} {t:TypeId} (h:w.heap[b]? = some (.cells cs t (0,0))) (e:cs=cs'):w.heap[b]? = some (.cells cs' t (0,0)):=e▸h
def zF:Array Value:=#[.int .i64 0,.int .i64 0,.int .u32 0,.int .i64 0,.slice none 0 0,.int .u32 0,.int .u32 0,.int .u32 0,.int .u32 0,.bool false,.bool false,.int .u32 0,.int .i64 0,.slice none 0 0]
structure PlS (w w3:World) (o:Nat) (h:Hd):Prop where
 B:Below w.heap.size w w3
 lo:w.heap.size<o
 hi:o<w3.heap.size
 q:w3.heap[w.heap.size]? = some (.cells zF 63 (0,0))
 f:w3.heap[o]? = some (.cells (frX (Fr.of h) (.slice none 0 0) (.slice none 0 0)) 63 (0,0))
theorem PlS.mk' {w w1 w2 w3:World} {h:Hd} {ob:Obj} {od:Obj} (b1:Below (w.alloc (.cells zF 63)).heap.size (w.alloc (.cells zF 63)) w1) (k2:Kept (· ≠ w1.heap.size) (w1.alloc ob) w2) (k3:Kept (· ≠ w2.heap.size) (w2.alloc od) w3)
   (hb3:w3.heap[w2.heap.size]? = some (.cells (frX (Fr.of h) (.slice none 0 0) (.slice none 0 0)) 63 (0,0))):PlS w w3 w2.heap.size h:=by
 have h0:Below w.heap.size w (w.alloc (.cells zF 63)):=((Kept.refl (· < w.heap.size) w).alloc _).below (Nat.le_refl _)
 have s1:=b1.size
 have s2:=(below_new k2).size
 simp at s1
 refine ⟨Below.step (Below.step (Below.step h0 b1) (below_new k2)) (below_new k3),by omega,lt_of_block hb3,?_,hb3⟩
 have q1:=blk_below (blk_new w (.cells zF 63)) b1
 exact blk_below (blk_below q1 (below_new k2)) (below_new k3)
theorem ty_DataFrame (v:Value) (w:World):(Instr.typeAssert (.iface 126 v) 75 126 true).run Tryz.prog w = .ok (.tuple #[v,.bool true]) w:=by kernel_rfl
theorem ty_HeadersFrame (v:Value) (w:World):(Instr.typeAssert (.iface 129 v) 75 129 true).run Tryz.prog w = .ok (.tuple #[v,.bool true]) w:=by kernel_rfl
theorem tn_HeadersFrame_DataFrame (v:Value) (w:World):(Instr.typeAssert (.iface 129 v) 75 126 true).run Tryz.prog w = .ok (.tuple #[.pointer none,.bool false]) w:=by kernel_rfl
theorem ty_PriorityFrame (v:Value) (w:World):(Instr.typeAssert (.iface 136 v) 75 136 true).run Tryz.prog w = .ok (.tuple #[v,.bool true]) w:=by kernel_rfl
theorem tn_PriorityFrame_DataFrame (v:Value) (w:World):(Instr.typeAssert (.iface 136 v) 75 126 true).run Tryz.prog w = .ok (.tuple #[.pointer none,.bool false]) w:=by kernel_rfl
theorem tn_PriorityFrame_HeadersFrame (v:Value) (w:World):(Instr.typeAssert (.iface 136 v) 75 129 true).run Tryz.prog w = .ok (.tuple #[.pointer none,.bool false]) w:=by kernel_rfl
theorem ty_RSTStreamFrame (v:Value) (w:World):(Instr.typeAssert (.iface 139 v) 75 139 true).run Tryz.prog w = .ok (.tuple #[v,.bool true]) w:=by kernel_rfl
theorem tn_RSTStreamFrame_DataFrame (v:Value) (w:World):(Instr.typeAssert (.iface 139 v) 75 126 true).run Tryz.prog w = .ok (.tuple #[.pointer none,.bool false]) w:=by kernel_rfl
theorem tn_RSTStreamFrame_HeadersFrame (v:Value) (w:World):(Instr.typeAssert (.iface 139 v) 75 129 true).run Tryz.prog w = .ok (.tuple #[.pointer none,.bool false]) w:=by kernel_rfl
theorem tn_RSTStreamFrame_PriorityFrame (v:Value) (w:World):(Instr.typeAssert (.iface 139 v) 75 136 true).run Tryz.prog w = .ok (.tuple #[.pointer none,.bool false]) w:=by kernel_rfl
theorem ty_SettingsFrame (v:Value) (w:World):(Instr.typeAssert (.iface 142 v) 75 142 true).run Tryz.prog w = .ok (.tuple #[v,.bool true]) w:=by kernel_rfl
theorem tn_SettingsFrame_DataFrame (v:Value) (w:World):(Instr.typeAssert (.iface 142 v) 75 126 true).run Tryz.prog w = .ok (.tuple #[.pointer none,.bool false]) w:=by kernel_rfl
theorem tn_SettingsFrame_HeadersFrame (v:Value) (w:World):(Instr.typeAssert (.iface 142 v) 75 129 true).run Tryz.prog w = .ok (.tuple #[.pointer none,.bool false]) w:=by kernel_rfl
theorem tn_SettingsFrame_PriorityFrame (v:Value) (w:World):(Instr.typeAssert (.iface 142 v) 75 136 true).run Tryz.prog w = .ok (.tuple #[.pointer none,.bool false]) w:=by kernel_rfl
theorem tn_SettingsFrame_RSTStreamFrame (v:Value) (w:World):(Instr.typeAssert (.iface 142 v) 75 139 true).run Tryz.prog w = .ok (.tuple #[.pointer none,.bool false]) w:=by kernel_rfl
theorem ty_PushPromiseFrame (v:Value) (w:World):(Instr.typeAssert (.iface 149 v) 75 149 true).run Tryz.prog w = .ok (.tuple #[v,.bool true]) w:=by kernel_rfl
theorem tn_PushPromiseFrame_DataFrame (v:Value) (w:World):(Instr.typeAssert (.iface 149 v) 75 126 true).run Tryz.prog w = .ok (.tuple #[.pointer none,.bool false]) w:=by kernel_rfl
theorem tn_PushPromiseFrame_HeadersFrame (v:Value) (w:World):(Instr.typeAssert (.iface 149 v) 75 129 true).run Tryz.prog w = .ok (.tuple #[.pointer none,.bool false]) w:=by kernel_rfl
theorem tn_PushPromiseFrame_PriorityFrame (v:Value) (w:World):(Instr.typeAssert (.iface 149 v) 75 136 true).run Tryz.prog w = .ok (.tuple #[.pointer none,.bool false]) w:=by kernel_rfl
theorem tn_PushPromiseFrame_RSTStreamFrame (v:Value) (w:World):(Instr.typeAssert (.iface 149 v) 75 139 true).run Tryz.prog w = .ok (.tuple #[.pointer none,.bool false]) w:=by kernel_rfl
theorem tn_PushPromiseFrame_SettingsFrame (v:Value) (w:World):(Instr.typeAssert (.iface 149 v) 75 142 true).run Tryz.prog w = .ok (.tuple #[.pointer none,.bool false]) w:=by kernel_rfl
theorem ty_PingFrame (v:Value) (w:World):(Instr.typeAssert (.iface 152 v) 75 152 true).run Tryz.prog w = .ok (.tuple #[v,.bool true]) w:=by kernel_rfl
theorem tn_PingFrame_DataFrame (v:Value) (w:World):(Instr.typeAssert (.iface 152 v) 75 126 true).run Tryz.prog w = .ok (.tuple #[.pointer none,.bool false]) w:=by kernel_rfl
theorem tn_PingFrame_HeadersFrame (v:Value) (w:World):(Instr.typeAssert (.iface 152 v) 75 129 true).run Tryz.prog w = .ok (.tuple #[.pointer none,.bool false]) w:=by kernel_rfl
theorem tn_PingFrame_PriorityFrame (v:Value) (w:World):(Instr.typeAssert (.iface 152 v) 75 136 true).run Tryz.prog w = .ok (.tuple #[.pointer none,.bool false]) w:=by kernel_rfl
theorem tn_PingFrame_RSTStreamFrame (v:Value) (w:World):(Instr.typeAssert (.iface 152 v) 75 139 true).run Tryz.prog w = .ok (.tuple #[.pointer none,.bool false]) w:=by kernel_rfl
theorem tn_PingFrame_SettingsFrame (v:Value) (w:World):(Instr.typeAssert (.iface 152 v) 75 142 true).run Tryz.prog w = .ok (.tuple #[.pointer none,.bool false]) w:=by kernel_rfl
theorem tn_PingFrame_PushPromiseFrame (v:Value) (w:World):(Instr.typeAssert (.iface 152 v) 75 149 true).run Tryz.prog w = .ok (.tuple #[.pointer none,.bool false]) w:=by kernel_rfl
theorem ty_GoAwayFrame (v:Value) (w:World):(Instr.typeAssert (.iface 156 v) 75 156 true).run Tryz.prog w = .ok (.tuple #[v,.bool true]) w:=by kernel_rfl
theorem tn_GoAwayFrame_DataFrame (v:Value) (w:World):(Instr.typeAssert (.iface 156 v) 75 126 true).run Tryz.prog w = .ok (.tuple #[.pointer none,.bool false]) w:=by kernel_rfl
theorem tn_GoAwayFrame_HeadersFrame (v:Value) (w:World):(Instr.typeAssert (.iface 156 v) 75 129 true).run Tryz.prog w = .ok (.tuple #[.pointer none,.bool false]) w:=by kernel_rfl
theorem tn_GoAwayFrame_PriorityFrame (v:Value) (w:World):(Instr.typeAssert (.iface 156 v) 75 136 true).run Tryz.prog w = .ok (.tuple #[.pointer none,.bool false]) w:=by kernel_rfl
theorem tn_GoAwayFrame_RSTStreamFrame (v:Value) (w:World):(Instr.typeAssert (.iface 156 v) 75 139 true).run Tryz.prog w = .ok (.tuple #[.pointer none,.bool false]) w:=by kernel_rfl
theorem tn_GoAwayFrame_SettingsFrame (v:Value) (w:World):(Instr.typeAssert (.iface 156 v) 75 142 true).run Tryz.prog w = .ok (.tuple #[.pointer none,.bool false]) w:=by kernel_rfl
theorem tn_GoAwayFrame_PushPromiseFrame (v:Value) (w:World):(Instr.typeAssert (.iface 156 v) 75 149 true).run Tryz.prog w = .ok (.tuple #[.pointer none,.bool false]) w:=by kernel_rfl
theorem tn_GoAwayFrame_PingFrame (v:Value) (w:World):(Instr.typeAssert (.iface 156 v) 75 152 true).run Tryz.prog w = .ok (.tuple #[.pointer none,.bool false]) w:=by kernel_rfl
theorem ty_WindowUpdateFrame (v:Value) (w:World):(Instr.typeAssert (.iface 159 v) 75 159 true).run Tryz.prog w = .ok (.tuple #[v,.bool true]) w:=by kernel_rfl
theorem tn_WindowUpdateFrame_DataFrame (v:Value) (w:World):(Instr.typeAssert (.iface 159 v) 75 126 true).run Tryz.prog w = .ok (.tuple #[.pointer none,.bool false]) w:=by kernel_rfl
theorem tn_WindowUpdateFrame_HeadersFrame (v:Value) (w:World):(Instr.typeAssert (.iface 159 v) 75 129 true).run Tryz.prog w = .ok (.tuple #[.pointer none,.bool false]) w:=by kernel_rfl
theorem tn_WindowUpdateFrame_PriorityFrame (v:Value) (w:World):(Instr.typeAssert (.iface 159 v) 75 136 true).run Tryz.prog w = .ok (.tuple #[.pointer none,.bool false]) w:=by kernel_rfl
theorem tn_WindowUpdateFrame_RSTStreamFrame (v:Value) (w:World):(Instr.typeAssert (.iface 159 v) 75 139 true).run Tryz.prog w = .ok (.tuple #[.pointer none,.bool false]) w:=by kernel_rfl
theorem tn_WindowUpdateFrame_SettingsFrame (v:Value) (w:World):(Instr.typeAssert (.iface 159 v) 75 142 true).run Tryz.prog w = .ok (.tuple #[.pointer none,.bool false]) w:=by kernel_rfl
theorem tn_WindowUpdateFrame_PushPromiseFrame (v:Value) (w:World):(Instr.typeAssert (.iface 159 v) 75 149 true).run Tryz.prog w = .ok (.tuple #[.pointer none,.bool false]) w:=by kernel_rfl
theorem tn_WindowUpdateFrame_PingFrame (v:Value) (w:World):(Instr.typeAssert (.iface 159 v) 75 152 true).run Tryz.prog w = .ok (.tuple #[.pointer none,.bool false]) w:=by kernel_rfl
theorem tn_WindowUpdateFrame_GoAwayFrame (v:Value) (w:World):(Instr.typeAssert (.iface 159 v) 75 156 true).run Tryz.prog w = .ok (.tuple #[.pointer none,.bool false]) w:=by kernel_rfl
theorem ty_ContinuationFrame (v:Value) (w:World):(Instr.typeAssert (.iface 162 v) 75 162 true).run Tryz.prog w = .ok (.tuple #[v,.bool true]) w:=by kernel_rfl
theorem tn_ContinuationFrame_DataFrame (v:Value) (w:World):(Instr.typeAssert (.iface 162 v) 75 126 true).run Tryz.prog w = .ok (.tuple #[.pointer none,.bool false]) w:=by kernel_rfl
theorem tn_ContinuationFrame_HeadersFrame (v:Value) (w:World):(Instr.typeAssert (.iface 162 v) 75 129 true).run Tryz.prog w = .ok (.tuple #[.pointer none,.bool false]) w:=by kernel_rfl
theorem tn_ContinuationFrame_PriorityFrame (v:Value) (w:World):(Instr.typeAssert (.iface 162 v) 75 136 true).run Tryz.prog w = .ok (.tuple #[.pointer none,.bool false]) w:=by kernel_rfl
theorem tn_ContinuationFrame_RSTStreamFrame (v:Value) (w:World):(Instr.typeAssert (.iface 162 v) 75 139 true).run Tryz.prog w = .ok (.tuple #[.pointer none,.bool false]) w:=by kernel_rfl
theorem tn_ContinuationFrame_SettingsFrame (v:Value) (w:World):(Instr.typeAssert (.iface 162 v) 75 142 true).run Tryz.prog w = .ok (.tuple #[.pointer none,.bool false]) w:=by kernel_rfl
theorem tn_ContinuationFrame_PushPromiseFrame (v:Value) (w:World):(Instr.typeAssert (.iface 162 v) 75 149 true).run Tryz.prog w = .ok (.tuple #[.pointer none,.bool false]) w:=by kernel_rfl
theorem tn_ContinuationFrame_PingFrame (v:Value) (w:World):(Instr.typeAssert (.iface 162 v) 75 152 true).run Tryz.prog w = .ok (.tuple #[.pointer none,.bool false]) w:=by kernel_rfl
theorem tn_ContinuationFrame_GoAwayFrame (v:Value) (w:World):(Instr.typeAssert (.iface 162 v) 75 156 true).run Tryz.prog w = .ok (.tuple #[.pointer none,.bool false]) w:=by kernel_rfl
theorem tn_ContinuationFrame_WindowUpdateFrame (v:Value) (w:World):(Instr.typeAssert (.iface 162 v) 75 159 true).run Tryz.prog w = .ok (.tuple #[.pointer none,.bool false]) w:=by kernel_rfl
theorem ty_PriorityUpdateFrame (v:Value) (w:World):(Instr.typeAssert (.iface 163 v) 75 163 true).run Tryz.prog w = .ok (.tuple #[v,.bool true]) w:=by kernel_rfl
theorem tn_PriorityUpdateFrame_DataFrame (v:Value) (w:World):(Instr.typeAssert (.iface 163 v) 75 126 true).run Tryz.prog w = .ok (.tuple #[.pointer none,.bool false]) w:=by kernel_rfl
theorem tn_PriorityUpdateFrame_HeadersFrame (v:Value) (w:World):(Instr.typeAssert (.iface 163 v) 75 129 true).run Tryz.prog w = .ok (.tuple #[.pointer none,.bool false]) w:=by kernel_rfl
theorem tn_PriorityUpdateFrame_PriorityFrame (v:Value) (w:World):(Instr.typeAssert (.iface 163 v) 75 136 true).run Tryz.prog w = .ok (.tuple #[.pointer none,.bool false]) w:=by kernel_rfl
theorem tn_PriorityUpdateFrame_RSTStreamFrame (v:Value) (w:World):(Instr.typeAssert (.iface 163 v) 75 139 true).run Tryz.prog w = .ok (.tuple #[.pointer none,.bool false]) w:=by kernel_rfl
theorem tn_PriorityUpdateFrame_SettingsFrame (v:Value) (w:World):(Instr.typeAssert (.iface 163 v) 75 142 true).run Tryz.prog w = .ok (.tuple #[.pointer none,.bool false]) w:=by kernel_rfl
theorem tn_PriorityUpdateFrame_PushPromiseFrame (v:Value) (w:World):(Instr.typeAssert (.iface 163 v) 75 149 true).run Tryz.prog w = .ok (.tuple #[.pointer none,.bool false]) w:=by kernel_rfl
theorem tn_PriorityUpdateFrame_PingFrame (v:Value) (w:World):(Instr.typeAssert (.iface 163 v) 75 152 true).run Tryz.prog w = .ok (.tuple #[.pointer none,.bool false]) w:=by kernel_rfl
theorem tn_PriorityUpdateFrame_GoAwayFrame (v:Value) (w:World):(Instr.typeAssert (.iface 163 v) 75 156 true).run Tryz.prog w = .ok (.tuple #[.pointer none,.bool false]) w:=by kernel_rfl
theorem tn_PriorityUpdateFrame_WindowUpdateFrame (v:Value) (w:World):(Instr.typeAssert (.iface 163 v) 75 159 true).run Tryz.prog w = .ok (.tuple #[.pointer none,.bool false]) w:=by kernel_rfl
theorem tn_PriorityUpdateFrame_ContinuationFrame (v:Value) (w:World):(Instr.typeAssert (.iface 163 v) 75 162 true).run Tryz.prog w = .ok (.tuple #[.pointer none,.bool false]) w:=by kernel_rfl
theorem ty_UnknownFrame (v:Value) (w:World):(Instr.typeAssert (.iface 166 v) 75 166 true).run Tryz.prog w = .ok (.tuple #[v,.bool true]) w:=by kernel_rfl
theorem tn_UnknownFrame_DataFrame (v:Value) (w:World):(Instr.typeAssert (.iface 166 v) 75 126 true).run Tryz.prog w = .ok (.tuple #[.pointer none,.bool false]) w:=by kernel_rfl
theorem tn_UnknownFrame_HeadersFrame (v:Value) (w:World):(Instr.typeAssert (.iface 166 v) 75 129 true).run Tryz.prog w = .ok (.tuple #[.pointer none,.bool false]) w:=by kernel_rfl
theorem tn_UnknownFrame_PriorityFrame (v:Value) (w:World):(Instr.typeAssert (.iface 166 v) 75 136 true).run Tryz.prog w = .ok (.tuple #[.pointer none,.bool false]) w:=by kernel_rfl
theorem tn_UnknownFrame_RSTStreamFrame (v:Value) (w:World):(Instr.typeAssert (.iface 166 v) 75 139 true).run Tryz.prog w = .ok (.tuple #[.pointer none,.bool false]) w:=by kernel_rfl
theorem tn_UnknownFrame_SettingsFrame (v:Value) (w:World):(Instr.typeAssert (.iface 166 v) 75 142 true).run Tryz.prog w = .ok (.tuple #[.pointer none,.bool false]) w:=by kernel_rfl
theorem tn_UnknownFrame_PushPromiseFrame (v:Value) (w:World):(Instr.typeAssert (.iface 166 v) 75 149 true).run Tryz.prog w = .ok (.tuple #[.pointer none,.bool false]) w:=by kernel_rfl
theorem tn_UnknownFrame_PingFrame (v:Value) (w:World):(Instr.typeAssert (.iface 166 v) 75 152 true).run Tryz.prog w = .ok (.tuple #[.pointer none,.bool false]) w:=by kernel_rfl
theorem tn_UnknownFrame_GoAwayFrame (v:Value) (w:World):(Instr.typeAssert (.iface 166 v) 75 156 true).run Tryz.prog w = .ok (.tuple #[.pointer none,.bool false]) w:=by kernel_rfl
theorem tn_UnknownFrame_WindowUpdateFrame (v:Value) (w:World):(Instr.typeAssert (.iface 166 v) 75 159 true).run Tryz.prog w = .ok (.tuple #[.pointer none,.bool false]) w:=by kernel_rfl
theorem tn_UnknownFrame_ContinuationFrame (v:Value) (w:World):(Instr.typeAssert (.iface 166 v) 75 162 true).run Tryz.prog w = .ok (.tuple #[.pointer none,.bool false]) w:=by kernel_rfl
theorem tn_UnknownFrame_PriorityUpdateFrame (v:Value) (w:World):(Instr.typeAssert (.iface 166 v) 75 163 true).run Tryz.prog w = .ok (.tuple #[.pointer none,.bool false]) w:=by kernel_rfl
theorem fresh_in {B:Nat} {v:Value} (h:Fresh B v) {K:Nat→Prop} (hk:∀k,B≤k→K k):inK K v:=by
 cases v with
 | slice a n c=>cases a with
   | none=>trivial
   | some a=>exact .inr (hk _ (h _ rfl))
 | _=>trivial
theorem inK_nil (K:Nat→Prop):inK K (.slice none 0 0):=trivial
theorem pln_end {w w4 w5:World} {x:Fr} {dv sv:Value} (hB:Below w.heap.size w w4) (k5:Kept (· ≠ w.heap.size) w4 w5) (hd:RdB w4 dv x.data) (fd:inK (w.heap.size < ·) dv) (hs:RdP w4 sv x.set) (fs:inK (w.heap.size < ·) sv):PlnEnd w x (.returned (.agg (frX x dv sv))) w5:=
 ⟨dv,sv,rfl,(Kept.ofBelow hB).trans (k5.mono fun _ h _=>Nat.ne_of_lt h) |>.below (Nat.le_refl _),hd.kept k5 (fd.mono' fun _ h=>Nat.ne_of_gt h),fd.mono' fun _ h=>Nat.le_of_lt h,hs.kept k5 (fs.mono' fun _ h=>Nat.ne_of_gt h),fs.mono' fun _ h=>Nat.le_of_lt h⟩
theorem cs2 {w:World} {p q k i j:Nat} {v u u':Value} (hne:p≠q) (h:w.cell? ⟨p,k,none⟩=some v):((w.setCell ⟨q,i,none⟩ u).setCell ⟨q,j,none⟩ u').cell? ⟨p,k,none⟩=some v:=
 (((Kept.refl (· ≠ q) w).setCell (fun h=>absurd rfl h) u).setCell (fun h=>absurd rfl h) u').cell hne h
theorem infoPP:(Tryz.prog.info? 133).map (·.size)=some 5:=by kernel_rfl
theorem blk_five {w:World} {b o:Nat} {v0 v1 v2 v3 v4:Value} (h0:w.cell? ⟨b,o,none⟩=some v0) (h1:w.cell? ⟨b,o+1,none⟩=some v1) (h2:w.cell? ⟨b,o+2,none⟩=some v2) (h3:w.cell? ⟨b,o+3,none⟩=some v3) (h4:w.cell? ⟨b,o+4,none⟩=some v4) :
   ∀j v,(#[v0,v1,v2,v3,v4]:Array Value)[j]? = some v→w.cell? ⟨b,o+j,none⟩=some v:=by
 intro j v hj
 match j with
 | 0=>simp at hj;subst hj;exact h0
 | 1=>simp at hj;subst hj;exact h1
 | 2=>simp at hj;subst hj;exact h2
 | 3=>simp at hj;subst hj;exact h3
 | 4=>simp at hj;subst hj;exact h4
 | j+5=>simp at hj
def PriorEnd (w:World) (o:Nat) (x:Fr) (dv sv:Value) (e:Ending) (w':World):Prop:=e = .returned (.tuple #[])∧w'.heap[o]? = some (.cells (frX x dv sv) 63 (0,0))∧Kept (· ≠ o) w w'
theorem prior_any {w:World} {o:Nat} {x:Fr} {dv sv:Value} (ho:w.heap[o]? = some (.cells (frX x dv sv) 63 (0,0))) (dep wt:Int) (ex:Bool) (h0:0≤wt) (h1:wt<256) :
   Calls Tryz.prog 54 #[.pointer (some ⟨o,0,none⟩),.agg #[.int .u32 dep,.bool ex,.int .u8 wt,.int .u8 0,.int .u8 0]] w (PriorEnd w o { x with dep:=dep,ex:=ex,wt:=wt } dv sv):=by
 have hlt:=lt_of_block ho
 have hne:w.heap.size≠o:=by omega
 have ho':o≠w.heap.size:=by omega
 have d10:w.cell? ⟨o,10,none⟩=some (.bool x.ex):=blk_cell ho 10
 have d11:w.cell? ⟨o,11,none⟩=some (.int .u32 x.dep):=blk_cell ho 11
 have d12:w.cell? ⟨o,12,none⟩=some (.int .i64 x.wt):=blk_cell ho 12
 have f10:=blk_free ho 10
 have f11:=blk_free ho 11
 have f12:=blk_free ho 12
 have HB:=Lib.hid ho
 clear ho
 go_enter Tryz.func54,Tryz.ntmps54
 go_wp2
 go_region
 go_end0
 exact ⟨rfl,blk_drew (blk_alloc (blk_set (blk_set (blk_set HB.out 11 _) 10 _) 12 _)),(((((Kept.refl _ w).setCell (fun h=>absurd rfl h) _).setCell (fun h=>absurd rfl h) _).setCell (fun h=>absurd rfl h) _).alloc _).drew⟩
end Go.Proofs.YtfdlbjibninakaaGreatDoor

/- validStreamID, validStreamIDOrZero. -/
import Derived.Test.YtfdlbjibninakaaGreatDoorBase
import Derived.BigQuiet
import Derived.Deep.QuietTactic
import Derived.Deep.RegionHeld3
import Derived.Stop.IfaceNil
set_option linter.unusedVariables false
set_option linter.unusedSimpArgs false
namespace Go.Proofs.YtfdlbjibninakaaGreatDoor
set_option maxRecDepth 10000
set_option maxHeartbeats 800000
open Go.RowKit
def framerW (cl bW:Nat) (wb:Value):Array Value:=
 #[.nilIface,.nilIface,.nilIface,.func (.func 44) #[] #[],.int .u32 0,.int .u8 0,.int .u32 16777215,
   .int .u8 0,.int .u8 0,.int .u8 0,.int .u8 0,.int .u8 0,.int .u8 0,.int .u8 0,.int .u8 0,.int .u8 0,
   .func (.func 45) #[] #[.pointer (some ⟨cl,0,none⟩)],.slice none 0 0,.int .u32 0,.iface 99 (.pointer (some ⟨bW,0,none⟩)),wb,.bool false,.bool false,.pointer none]
structure WS (K:Nat→Prop) (w:World) (bF cl bW:Nat) (cur out:List Int) (wb al:Value):Prop where
 F:w.heap[bF]? = some (.cells (framerW cl bW wb) 86 (0,0))
 W:w.heap[bW]? = some (.cells #[al] 101 (0,0))
 own:Row w 5 1 wb cur.length (bv cur)
 all:Row w 5 1 al out.length (bv out)
 kF:¬K bF
 kW:¬K bW
 kw:∀g,wb.ownBlock=some g → ¬K g
 ka:∀g,al.ownBlock=some g → ¬K g
 ne:∀g,wb.ownBlock=some g→al.ownBlock≠some g
 lt:∀k,K k→k<w.heap.size
section
variable {K : Nat → Prop} {w w1 : World} {bF cl bW : Nat} {cur out : List Int} {wb al : Value}
theorem WS.neF (h:WS K w bF cl bW cur out wb al):wb.ownBlock≠some bF:=own_block h.own h.F (by decide)
theorem WS.neW (h:WS K w bF cl bW cur out wb al):wb.ownBlock≠some bW:=own_block h.own h.W (by decide)
theorem WS.aeF (h:WS K w bF cl bW cur out wb al):al.ownBlock≠some bF:=own_block h.all h.F (by decide)
theorem WS.aeW (h:WS K w bF cl bW cur out wb al):al.ownBlock≠some bW:=own_block h.all h.W (by decide)
theorem WS.FW (h:WS K w bF cl bW cur out wb al):bF≠bW:=fun e=>by
 have h1:=h.F
 rw [e,h.W] at h1
 cases h1
theorem WS.alloc (h:WS K w bF cl bW cur out wb al) (o:Obj):WS K (w.alloc o) bF cl bW cur out wb al:=
 ⟨blk_alloc h.F,blk_alloc h.W,own_alloc h.own o,own_alloc h.all o,h.kF,h.kW,h.kw,h.ka,h.ne,fun k hk=>by have:=h.lt k hk;simp;omega⟩
theorem WS.drew (h:WS K w bF cl bW cur out wb al):WS K w.drew bF cl bW cur out wb al:=
 ⟨h.F,h.W,own_drew h.own,own_drew h.all,h.kF,h.kW,h.kw,h.ka,h.ne,h.lt⟩
theorem WS.widen (h:WS K w bF cl bW cur out wb al) {K':Nat→Prop} (hK:∀k,K' k→K k∨(w.heap.size≤k∧k<w1.heap.size)) (hk:Below w.heap.size w w1):WS K' w1 bF cl bW cur out wb al:=by
 have hkk:Kept (fun _=>True) w w1:=Kept.all hk
 refine ⟨hkk.at trivial h.F,hkk.at trivial h.W,own_kept h.own hkk (fun _ _=>trivial),own_kept h.all hkk (fun _ _=>trivial),?_,?_,?_,?_,h.ne,?_⟩
 · intro hf
   rcases hK _ hf with hf|hf
   · exact h.kF hf
   · have:=lt_of_block h.F;omega
 · intro hf
   rcases hK _ hf with hf|hf
   · exact h.kW hf
   · have:=lt_of_block h.W;omega
 · intro g hg hf
   rcases hK _ hf with hf|hf
   · exact h.kw g hg hf
   · have:=own_lt h.own g hg;omega
 · intro g hg hf
   rcases hK _ hf with hf|hf
   · exact h.ka g hg hf
   · have:=own_lt h.all g hg;omega
 · intro k hf
   rcases hK _ hf with hf|hf
   · have:=h.lt k hf;have:=hk.size;omega
   · exact hf.2
theorem WS.put (h:WS K w bF cl bW cur out wb al) {v':Value} {cur':List Int} (hg:w.grownBy w1 wb.ownBlock) (hown:Row w1 5 1 v' cur'.length (bv cur')) (hv:v'.ownBlock=wb.ownBlock∨v'.ownBlock=some w.heap.size) :
   WS K (w1.setCell ⟨bF,20,none⟩ v') bF cl bW cur' out v' al∧Kept K w (w1.setCell ⟨bF,20,none⟩ v'):=by
 have hF1:=blk_grown h.F hg h.neF
 have hF2:=blk_set hF1 20 v'
 have hW1:=blk_grown h.W hg h.neW
 have hal:Row w1 5 1 al out.length (bv out):=own_grown h.all hg (by
   cases hb:al.ownBlock with
   | none=>exact .inl rfl
   | some g =>
     refine .inr fun e => ?_
     exact h.ne g e.symm hb)
 have hv2:v'.ownBlock≠some bF:=own_block hown hF1 (by decide)
 refine ⟨⟨hF2,blk_set_other hW1 (Ne.symm h.FW) _,own_set hown hv2 _,own_set hal (own_block hal hF1 (by decide)) _,h.kF,h.kW,?_,h.ka,?_,?_⟩,?_⟩
 · intro g hg'
   rcases hv with e|e
   · exact h.kw g (by rw [←e];exact hg')
   · intro hk
     have:=h.lt g hk
     rw [e] at hg'
     cases hg'
     omega
 · intro g hg' ha
   rcases hv with e|e
   · exact h.ne g (by rw [←e];exact hg') ha
   · rw [e] at hg'
     cases hg'
     have:=own_lt h.all _ ha
     omega
 · intro k hk
   have h1:=h.lt k hk
   have h2:=hg.size
   simp
   omega
 · exact (Kept.grown (Kept.refl K w) hg (fun k e hk=>absurd hk (h.kw k e))).setCell (fun hk=>absurd hk h.kF) v'
end
theorem setMax_any (b:Nat) (v x:Int) (w:World) (_hx0:0≤x) (_hx:x≤16777215) (hc:w.cell? ⟨b,6,none⟩=some (.int .u32 v)) (hf:w.frozen? ⟨b,6,none⟩=false) :
   Calls Tryz.prog 27 #[.pointer (some ⟨b,0,none⟩),.int .u32 x] w fun e w'=>e = .returned (.tuple #[])∧w.setCell ⟨b,6,none⟩ (.int .u32 x)=w':=by
 go_enter Tryz.func27,Tryz.ntmps27
 go_wp2
 go_end0
 exact ⟨rfl,rfl⟩
theorem newFramer_w (bW:Nat) (w:World) :
   Calls Tryz.prog 26 #[.iface 99 (.pointer (some ⟨bW,0,none⟩)),.nilIface] w fun e w'=>e = .returned (.pointer (some ⟨w.heap.size,0,none⟩)) ∧
     ((w.alloc (.cells (framerW (w.heap.size+1) bW (.slice none 0 0)) 86)).alloc (.cells #[.pointer (some ⟨w.heap.size,0,none⟩)] 67))=w':=by
 go_enter Tryz.func26,Tryz.ntmps26
 go_wp2_with (go_at_call 27;refine (setMax_any _ 0 _ _ (by omega) (by omega) (by simp) (by simp)).mono ?_;rintro e w' ⟨rfl,rfl⟩)
 go_ret
 exact ⟨rfl,rfl⟩
theorem WS.new {w:World} {bF cl bW:Nat} {K:Nat→Prop} (hF:w.heap[bF]? = some (.cells (framerW cl bW (.slice none 0 0)) 86 (0,0))) (hW:w.heap[bW]? = some (.cells #[.slice none 0 0] 101 (0,0)))
   (kF:¬K bF) (kW:¬K bW) (lt:∀k,K k→k<w.heap.size):WS K w bF cl bW [] [] (.slice none 0 0) (.slice none 0 0):=
 ⟨hF,hW,World.ownsRow_nil _ _ _ _,World.ownsRow_nil _ _ _ _,kF,kW,fun g hg=>(by cases hg),fun g hg=>(by cases hg),fun g hg=>(by cases hg),lt⟩
def Wrote (K:Nat→Prop) (w:World) (bF cl bW:Nat) (cur out:List Int) (r:Value) (e:Ending) (w':World):Prop:=
 e = .returned r∧Kept K w w' ∧ ∃wb al,WS K w' bF cl bW cur out wb al
def hdr0 (t fl s:Int):List Int:=[0,0,0,t,fl,s / 16777216,s / 65536%256,s / 256%256,s%256]
theorem startWrite_any {K:Nat→Prop} {w:World} {bF cl bW:Nat} {cur out:List Int} {wb al:Value} (h:WS K w bF cl bW cur out wb al) (t fl s:Int) (hs0:0≤s) (hs1:s<4294967296) :
   Calls Tryz.prog 99 #[.pointer (some ⟨bF,0,none⟩),.int .u8 t,.int .u8 fl,.int .u32 s] w (Wrote K w bF cl bW (hdr0 t fl s) out (.tuple #[])):=by
 obtain ⟨a,cap,rfl,hcap,hmax⟩:=own_shape h.own
 have hc:=blk_cell h.F 20
 have hf:=blk_free h.F 20
 have hc':w.cell? ⟨bF,20,none⟩=some (.slice a cur.length cap):=hc
 clear hc
 go_enter Tryz.func99,Tryz.ntmps99
 go_wp2_with (at_builtin;refine wpList_app E5 rfl _ _ rfl (.slice a 0 cap) 0 [] rfl (own_alloc (own_zero h.own) _) 9 _ (src_of_block Tryz.underlying22 (blk_new w _) rfl (by simp [Value.oneCell'])) (by omega) (by unfold maxLen;omega) ?_;intro a' c' w1 hown1 hgrow hat;rw [own_blk a 0 cap cur.length cap] at hgrow hat;have hF1:=blk_grown (blk_alloc h.F) hgrow h.neF;have hc1:w1.cell? ⟨bF,20,none⟩=some (.slice a cur.length cap):=blk_cell hF1 20;have hf1:=blk_free hF1 20;clear hF1)
 go_end0
 have hp:=(h.alloc _).put (cur':=hdr0 t fl s) hgrow hown1 hat
 exact ⟨rfl,((Kept.refl K w).alloc _).trans hp.2,_,_,hp.1⟩
end Go.Proofs.YtfdlbjibninakaaGreatDoor

namespace Go.Proofs.YtfdlbjibninakaaGreatDoor
set_option maxRecDepth 10000
set_option maxHeartbeats 800000
open Go.RowKit
theorem writeByte_any {K:Nat→Prop} {w:World} {bF cl bW:Nat} {cur out:List Int} {wb al:Value} (h:WS K w bF cl bW cur out wb al) (t:Int) (hl:cur.length≤1000000000) :
   Calls Tryz.prog 100 #[.pointer (some ⟨bF,0,none⟩),.int .u8 t] w (Wrote K w bF cl bW (cur ++ [t]) out (.tuple #[])):=by
 obtain ⟨a,cap,rfl,hcap,hmax⟩:=own_shape h.own
 have hf:=blk_free h.F 20
 have hc':w.cell? ⟨bF,20,none⟩=some (.slice a cur.length cap):=blk_cell h.F 20
 go_enter Tryz.func100,Tryz.ntmps100
 go_wp2_with (at_builtin;refine wpList_app E5 rfl _ _ rfl (.slice a cur.length cap) cur.length (bv cur) rfl (own_alloc h.own _) 1 _ (src_of_block Tryz.underlying22 (blk_new w _) rfl (by simp [Value.oneCell'])) (by omega) (by unfold maxLen;omega) ?_;intro a' c' w1 hown1 hgrow hat;have hF1:=blk_grown (blk_alloc h.F) hgrow h.neF;have hc1:w1.cell? ⟨bF,20,none⟩=some (.slice a cur.length cap):=blk_cell hF1 20;have hf1:=blk_free hF1 20;clear hF1)
 go_end0
 have hp:=(h.alloc _).put (cur':=cur ++ [t]) hgrow (by simpa [bv] using hown1) hat
 exact ⟨rfl,((Kept.refl K w).alloc _).trans hp.2,_,_,by simpa using hp.1⟩
def be16 (v:Int):List Int:=[v / 256,v%256]
def be32 (v:Int):List Int:=[v / 16777216,v / 65536%256,v / 256%256,v%256]
theorem writeUint16_any {K:Nat→Prop} {w:World} {bF cl bW:Nat} {cur out:List Int} {wb al:Value} (h:WS K w bF cl bW cur out wb al) (t:Int) (_h0:0≤t) (_h1:t<65536) (hl:cur.length≤1000000000) :
   Calls Tryz.prog 104 #[.pointer (some ⟨bF,0,none⟩),.int .u16 t] w (Wrote K w bF cl bW (cur++be16 t) out (.tuple #[])):=by
 obtain ⟨a,cap,rfl,hcap,hmax⟩:=own_shape h.own
 have hf:=blk_free h.F 20
 have hc':w.cell? ⟨bF,20,none⟩=some (.slice a cur.length cap):=blk_cell h.F 20
 go_enter Tryz.func104,Tryz.ntmps104
 go_wp2_with (at_builtin;refine wpList_app E5 rfl _ _ rfl (.slice a cur.length cap) cur.length (bv cur) rfl (own_alloc h.own _) 2 _ (src_of_block Tryz.underlying22 (blk_new w _) rfl (by simp [Value.oneCell'])) (by omega) (by unfold maxLen;omega) ?_;intro a' c' w1 hown1 hgrow hat;have hF1:=blk_grown (blk_alloc h.F) hgrow h.neF;have hc1:w1.cell? ⟨bF,20,none⟩=some (.slice a cur.length cap):=blk_cell hF1 20;have hf1:=blk_free hF1 20;clear hF1)
 go_end0
 have hp:=(h.alloc _).put (cur':=cur++be16 t) hgrow (by simpa [bv,be16] using hown1) hat
 exact ⟨rfl,((Kept.refl K w).alloc _).trans hp.2,_,_,by simpa using hp.1⟩
theorem writeUint32_any {K:Nat→Prop} {w:World} {bF cl bW:Nat} {cur out:List Int} {wb al:Value} (h:WS K w bF cl bW cur out wb al) (t:Int) (_h0:0≤t) (_h1:t<4294967296) (hl:cur.length≤1000000000) :
   Calls Tryz.prog 102 #[.pointer (some ⟨bF,0,none⟩),.int .u32 t] w (Wrote K w bF cl bW (cur++be32 t) out (.tuple #[])):=by
 obtain ⟨a,cap,rfl,hcap,hmax⟩:=own_shape h.own
 have hf:=blk_free h.F 20
 have hc':w.cell? ⟨bF,20,none⟩=some (.slice a cur.length cap):=blk_cell h.F 20
 go_enter Tryz.func102,Tryz.ntmps102
 go_wp2_with (at_builtin;refine wpList_app E5 rfl _ _ rfl (.slice a cur.length cap) cur.length (bv cur) rfl (own_alloc h.own _) 4 _ (src_of_block Tryz.underlying22 (blk_new w _) rfl (by simp [Value.oneCell'])) (by omega) (by unfold maxLen;omega) ?_;intro a' c' w1 hown1 hgrow hat;have hF1:=blk_grown (blk_alloc h.F) hgrow h.neF;have hc1:w1.cell? ⟨bF,20,none⟩=some (.slice a cur.length cap):=blk_cell hF1 20;have hf1:=blk_free hF1 20;clear hF1)
 go_end0
 have hp:=(h.alloc _).put (cur':=cur++be32 t) hgrow (by simpa [bv,be32] using hown1) hat
 exact ⟨rfl,((Kept.refl K w).alloc _).trans hp.2,_,_,by simpa using hp.1⟩
theorem writeBytes_any {K:Nat→Prop} {w:World} {bF cl bW:Nat} {cur out l:List Int} {wb al v:Value} (h:WS K w bF cl bW cur out wb al) (hv:RdB w v l) (hl:cur.length≤1000000000) (hl2:l.length≤1000000000) :
   Calls Tryz.prog 105 #[.pointer (some ⟨bF,0,none⟩),v] w (Wrote K w bF cl bW (cur++l) out (.tuple #[])):=by
 obtain ⟨a,cap,rfl,hcap,hmax⟩:=own_shape h.own
 have hf:=blk_free h.F 20
 have hc':w.cell? ⟨bF,20,none⟩=some (.slice a cur.length cap):=blk_cell h.F 20
 go_enter Tryz.func105,Tryz.ntmps105
 go_wp2_with (at_builtin;refine wpList_app E5 rfl _ _ rfl (.slice a cur.length cap) cur.length (bv cur) rfl h.own l.length (bv l) (src_of_rd hv) (by omega) (by unfold maxLen;omega) ?_;intro a' c' w1 hown1 hgrow hat;have hF1:=blk_grown h.F hgrow h.neF;have hc1:w1.cell? ⟨bF,20,none⟩=some (.slice a cur.length cap):=blk_cell hF1 20;have hf1:=blk_free hF1 20;clear hF1)
 go_end0
 have hp:=h.put (cur':=cur++l) hgrow (by simpa [bv] using hown1) hat
 exact ⟨rfl,hp.2,_,_,by simpa using hp.1⟩
theorem WS.push {K:Nat→Prop} {w w1:World} {bF cl bW:Nat} {cur out out':List Int} {wb al v':Value} (h:WS K w bF cl bW cur out wb al) (hg:w.grownBy w1 al.ownBlock)
   (hown:Row w1 5 1 v' out'.length (bv out')) (hv:v'.ownBlock=al.ownBlock∨v'.ownBlock=some w.heap.size) :
   WS K (w1.setCell ⟨bW,0,none⟩ v') bF cl bW cur out' wb v'∧Kept K w (w1.setCell ⟨bW,0,none⟩ v'):=by
 have hF1:=blk_grown h.F hg h.aeF
 have hW1:=blk_grown h.W hg h.aeW
 have hW2:=blk_set hW1 0 v'
 have hwb:Row w1 5 1 wb cur.length (bv cur):=own_grown h.own hg (by
   cases hb:wb.ownBlock with
   | none=>exact .inl rfl
   | some g=>exact .inr fun e=>h.ne g hb e.symm)
 have hv2:v'.ownBlock≠some bW:=own_block hown hW1 (by decide)
 refine ⟨⟨blk_set_other hF1 h.FW _,hW2,own_set hwb (own_block hwb hW1 (by decide)) _,own_set hown hv2 _,h.kF,h.kW,h.kw,?_,?_,?_⟩,?_⟩
 · intro g hg'
   rcases hv with e|e
   · exact h.ka g (by rw [←e];exact hg')
   · intro hk
     have:=h.lt g hk
     rw [e] at hg'
     cases hg'
     omega
 · intro g hg' ha
   rcases hv with e|e
   · exact h.ne g hg' (by rw [←e];exact ha)
   · rw [e] at ha
     cases ha
     have:=own_lt h.own _ hg'
     omega
 · intro k hk
   have h1:=h.lt k hk
   have h2:=hg.size
   simp
   omega
 · exact (Kept.grown (Kept.refl K w) hg (fun k e hk=>absurd hk (h.ka k e))).setCell (fun hk=>absurd hk h.kW) v'
theorem write_any {K:Nat→Prop} {w:World} {bF cl bW:Nat} {cur out:List Int} {wb al:Value} (h:WS K w bF cl bW cur out wb al) (hl:cur.length≤1000000000) (hl2:out.length≤1000000000) :
   Calls Tryz.prog 148 #[.pointer (some ⟨bW,0,none⟩),wb] w fun e w'=>e = .returned (.tuple #[.int .i64 cur.length,.nilIface])∧Kept K w w' ∧ ∃al',WS K w' bF cl bW cur (out++cur) wb al':=by
 obtain ⟨a,cap,rfl,hcap,hmax⟩:=own_shape h.own
 obtain ⟨a2,cap2,rfl,hcap2,hmax2⟩:=own_shape h.all
 have hf:=blk_free h.W 0
 have hc':w.cell? ⟨bW,0,none⟩=some (.slice a2 out.length cap2):=blk_cell h.W 0
 go_enter Tryz.func148,Tryz.ntmps148
 go_wp2_with (at_builtin;refine wpList_app E5 rfl _ _ rfl (.slice a2 out.length cap2) out.length (bv out) rfl h.all cur.length (bv cur) (src_of_row Tryz.underlying22 h.own (bv_one _)) (by omega) (by unfold maxLen;omega) ?_;intro a' c' w1 hown1 hgrow hat;have hF1:=blk_grown h.W hgrow h.aeW;have hc1:w1.cell? ⟨bW,0,none⟩=some (.slice a2 out.length cap2):=blk_cell hF1 0;have hf1:=blk_free hF1 0;clear hF1)
 go_ret2
 have hp:=h.push (out':=out++cur) hgrow (by simpa [bv] using hown1) hat
 exact ⟨rfl,hp.2,_,by simpa using hp.1⟩
theorem run_over {P:Program} {T e size bytes:Nat} {z:Value} (E:Elem P T e size bytes z) (w:World) (tx ty:Nat) (a:Option Addr) (n cap:Nat) (xs:List Value) (hown:Row w e size (.slice a n cap) n xs) (x:Value) (m:Nat) (news:List Value) (hs:Src P size tx x m news w)
   (hm:m≤n) (hm0:0<m) :
   ∃w',(Builtin.append_ #[T,tx] ty #[.slice a 0 cap,x]).run P w = .ok (.slice a m cap) w'∧Row w' e size (.slice a n cap) n (news++xs.drop (m*size))∧w.grownBy w' (Value.slice a n cap).ownBlock:=by
 obtain ⟨i,hi,hz,hsize,hby⟩:=info_parts E.info
 subst hsize
 rcases hown.2 with ⟨h0,h1⟩|⟨g,cap',cur,h0,hbg,hg,hnc,hcm,hcs,htake⟩
 · omega
 · cases h0
   have hl:m*i.size≤n*i.size:=Nat.mul_le_mul_right _ hm
   have hl2:n*i.size≤cap*i.size:=Nat.mul_le_mul_right _ hnc
   have hst:=run_storeCells_at P g 0 e news 0 cur w hg (by simpa [hcs,hs.newsLen] using Nat.le_trans hl hl2) hs.one
   simp only [Nat.add_zero,List.take_zero,List.nil_append,Nat.zero_add] at hst
   have hroom:m≤cap:=Nat.le_trans hm hnc
   refine ⟨w.setRow g (news++cur.toList.drop news.length).toArray,?_,⟨?_,.inr ⟨g,cap,_,rfl,hbg,setRow_heap w g cur _ e _ hg,hnc,hcm,?_,?_⟩⟩,
       ⟨rfl,rfl,rfl,by simp,fun k _ hk=>setRow_other w g k _ (fun e=>hk (by simp [Value.ownBlock,e]))⟩⟩
   · rcases hs.kind with ⟨e',hk⟩|hk<;>simp [Builtin.append_,run_underlying E.sl,run_underlying hk,sizeOf,typeInfo,hi,hs.len,hroom,hs.cells,Addr.add_lit,hst]
   · rw [List.length_append,hs.newsLen,List.length_drop,hown.1]
     omega
   · simp only [List.size_toArray,List.length_append,List.length_drop,Array.length_toList,hs.newsLen]
     omega
   · simp only [List.take_append,hs.newsLen,List.take_drop]
     rw [List.take_of_length_le (by rw [hs.newsLen];exact hl),←htake]
     congr 1
     rw [List.drop_take,List.take_drop]
     congr 2
     omega
end Go.Proofs.YtfdlbjibninakaaGreatDoor

namespace Go.Proofs.YtfdlbjibninakaaGreatDoor
set_option maxRecDepth 10000
set_option maxHeartbeats 1600000
open Go.RowKit
theorem wpList_over {P:Program} {T e size bytes tx:Nat} {z:Value} {w:World} {ops:Array Oper} {rest:List Oper} {o:Oper} {a:Act} {Q:Exit→Act→World→Prop}
   (E:Elem P T e size bytes z) (hgd:o.guard=none) (s x:Operand) (ho:o.op = .call { callee:=.builtin .append,args:=#[s,x],argTypes:=#[T,tx] })
   (ad:Option Addr) (n cap:Nat) (xs:List Value) (hs:a.eval s = .slice ad 0 cap) (hown:Row w e size (.slice ad n cap) n xs) (m:Nat) (news:List Value) (hx:Src P size tx (a.eval x) m news w) (hm:m≤n) (hm0:0<m)
   (h:∀w',Row w' e size (.slice ad n cap) n (news++xs.drop (m*size))→w.grownBy w' (Value.slice ad n cap).ownBlock→wpList P ops Q rest (a.put o.dst (.slice ad m cap)) w') :
   wpList P ops Q (o::rest) a w:=
 wpList_plain hgd fun _ hK=>by
   obtain ⟨w',hr,h2,h3⟩:=run_over (P:=P) E w tx o.type ad n cap xs hown (a.eval x) m news hx hm hm0
   unfold Oper.wp execOp
   simp only [ho,resolve,invoke,builtin,Sem.run_bind,Sem.run_pure,Result.andThen_ok,List.map_toArray,List.map_cons,List.map_nil,hs,hr]
   exact hK _ _ (h w' h2 h3)
theorem WS.over {K:Nat→Prop} {w w1:World} {bF cl bW:Nat} {cur cur' out:List Int} {wb al:Value} (h:WS K w bF cl bW cur out wb al) (hg:w.grownBy w1 wb.ownBlock)
   (hown:Row w1 5 1 wb cur'.length (bv cur')):WS K w1 bF cl bW cur' out wb al∧Kept K w w1:=by
 refine ⟨⟨blk_grown h.F hg h.neF,blk_grown h.W hg h.neW,hown,own_grown h.all hg ?_,h.kF,h.kW,h.kw,h.ka,h.ne,fun k hk=>by have:=h.lt k hk;have:=hg.size;omega⟩,Kept.grown (Kept.refl K w) hg (fun k e hk=>absurd hk (h.kw k e))⟩
 cases hb:al.ownBlock with
 | none=>exact .inl rfl
 | some g=>exact .inr fun e=>h.ne g e.symm hb
theorem method_write (x:Addr) (w:World):(method 391 99 (.pointer (some x)) "Write").run Tryz.prog w = .ok (148,.pointer (some x)) w:=by kernel_rfl
def sealed (cur:List Int):List Int:=[(cur.length-9:Int) / 65536,(cur.length-9:Int) / 256%256,(cur.length-9:Int)%256]++cur.drop 3
theorem endWrite_any {K:Nat→Prop} {w:World} {bF cl bW:Nat} {cur out:List Int} {wb al:Value} (h:WS K w bF cl bW cur out wb al) (h9:9≤cur.length) (hl:cur.length≤16777000) (hl2:out.length≤100000000) :
   Calls Tryz.prog 96 #[.pointer (some ⟨bF,0,none⟩)] w (Wrote K w bF cl bW (sealed cur) (out++sealed cur) .nilIface):=by
 obtain ⟨a,cap,rfl,hcap,hmax⟩:=own_shape h.own
 have hc':w.cell? ⟨bF,20,none⟩=some (.slice a cur.length cap):=blk_cell h.F 20
 have hlen:(sealed cur).length=cur.length:=by simp [sealed];omega
 have hn:((cur.length:Int)-9 ≥ 0):=by omega
 go_enter Tryz.func96,Tryz.ntmps96
 go_wp2_with (at_builtin;refine wpList_over E5 rfl _ _ rfl a cur.length cap (bv cur) rfl (own_alloc h.own _) 3 _ (src_of_block Tryz.underlying22 (blk_new w _) rfl (by simp [Value.oneCell'])) (by omega) (by omega) ?_;intro w1 hown1 hgrow)
 have h1:=(h.alloc _).over (cur':=sealed cur) hgrow (by rw [hlen];simpa [sealed,bv,List.map_drop] using hown1)
 have k1:=((Kept.refl K w).alloc _).trans h1.2
 replace h1:=h1.1
 have e19:w1.cell? ⟨bF,19,none⟩=some (.iface 99 (.pointer (some ⟨bW,0,none⟩))):=blk_cell h1.F 19
 have e20:w1.cell? ⟨bF,20,none⟩=some (.slice a cur.length cap):=blk_cell h1.F 20
 clear hown1 hgrow hc' h
 have hmw:=fun w=>method_write ⟨bW,0,none⟩ w
 go_region_held3 (fun w'=>w'.cell? ⟨bF,19,none⟩=some (.iface 99 (.pointer (some ⟨bW,0,none⟩)))∧w'.cell? ⟨bF,20,none⟩=some (.slice a cur.length cap)) (first|go_keep|(exact ⟨blk_cell h2.F 19,blk_cell h2.F 20⟩))
   (first|(go_at_call 148;refine (write_any h1.drew (by omega) (by omega)).mono ?_;rintro e w' ⟨rfl,hk2,al2,h2⟩))
 have f20:w'.cell? ⟨bF,20,none⟩=some (.slice a cur.length cap):=blk_cell h2.F 20
 rw [hlen] at *
 go_wp2
 go_ret
 exact ⟨rfl,k1.trans ((Kept.refl K w1).drew.trans hk2),_,_,h2⟩
end Go.Proofs.YtfdlbjibninakaaGreatDoor

namespace Go.Proofs.YtfdlbjibninakaaGreatDoor
set_option maxRecDepth 10000
set_option maxHeartbeats 800000
open Go.RowKit
theorem writeRaw_any {K:Nat→Prop} {w:World} {bF cl bW:Nat} {cur out l:List Int} {wb al v:Value} (h:WS K w bF cl bW cur out wb al) (t fl s:Int) (hs0:0≤s) (hs1:s<4294967296)
   (hv:RdB w v l) (hK:inK K v) (hl:l.length≤16000000) (hl2:out.length≤100000000) :
   Calls Tryz.prog 78 #[.pointer (some ⟨bF,0,none⟩),.int .u8 t,.int .u8 fl,.int .u32 s,v] w (Wrote K w bF cl bW (sealed (hdr0 t fl s++l)) (out++sealed (hdr0 t fl s++l)) .nilIface):=by
 go_enter Tryz.func78,Tryz.ntmps78
 go_wp2_with (first
   | (go_at_call 99;refine (startWrite_any h t fl s hs0 hs1).mono ?_;rintro e w1 ⟨rfl,k1,wb1,al1,h1⟩)
   | (go_at_call 105;refine (writeBytes_any h1 (hv.kept k1 hK) (by simp [hdr0]) (by omega)).mono ?_;rintro e w2 ⟨rfl,k2,wb2,al2,h2⟩)
   | (go_at_call 96;refine (endWrite_any h2 (by simp [hdr0]) (by simp [hdr0];omega) hl2).mono ?_;rintro e w3 ⟨rfl,k3,wb3,al3,h3⟩))
 go_ret
 exact ⟨rfl,(k1.trans k2).trans k3,_,_,h3⟩
def toBytes (v:Int):Nat→List Int
 | 0 => []
 | n+1=>v / 2 ^ (8*n)%256::toBytes v n
theorem toBytes_length (v:Int) (n:Nat):(toBytes v n).length=n:=by
 induction n with
 | zero=>rfl
 | succ n ih=>simp [toBytes,ih]
theorem toBytes_take (v:Int) (n m:Nat) (h:m<n):(toBytes v n).take (n-(m+1)+1)=(toBytes v n).take (n-(m+1)) ++ [v / 2 ^ (8*m)%256]:=by
 induction n with
 | zero=>omega
 | succ n ih =>
   rcases Nat.lt_or_ge m n with hlt|hge
   · have e1:n+1-(m+1)=n-(m+1)+1:=by omega
     rw [e1]
     simp only [toBytes,List.take_succ_cons,List.cons_append]
     rw [ih hlt]
   · have:m=n:=by omega
     subst this
     simp [toBytes]
theorem bytes_any (v:Int) (n:Nat) (w:World) (_h0:0≤v) (_h1:v<4294967296) (hn:n≤4) :
   Calls Tryz.prog 33 #[.int .u32 v,.int .i64 n] w (RetB w (toBytes v n)):=by
 go_enter Tryz.func33,Tryz.ntmps33
 go_wp2_with fail
 go_loopw [5,6] (fun o i wr => ∃k:Nat,k≤n∧i = .int .i64 ((k:Int)-1)∧Row wr 5 1 o (n-k) (bv ((toBytes v n).take (n-k)))∧Fresh w.heap.size o∧Below w.heap.size w wr) (fun _ i _=>(intOf i+1).toNat)
 case atStart=>exact ⟨n,Nat.le_refl _,rfl,(by simpa [bv] using World.ownsRow_nil w 0 5 1),Fresh.nil _,Below.refl _ _⟩
 case round =>
   obtain ⟨k,hk,rfl,hrow,hfr,hbel⟩:=hrel
   by_cases h:k=0
   · subst h
     go_wp2_with fail
     go_ret
     refine ⟨_,rfl,hbel,?_,hfr⟩
     rw [toBytes_length]
     simp at hrow
     rwa [List.take_of_length_le (by rw [toBytes_length];omega)] at hrow
   · obtain ⟨a,cap,rfl,hcap,hmax⟩:=own_shape hrow
     go_wp2_with (at_builtin;refine wpList_app E5 rfl _ _ rfl (.slice a (n-k) cap) (n-k) _ rfl (own_alloc hrow _) 1 _ (src_of_block Tryz.underlying22 (blk_new _ _) rfl (by simp [Value.oneCell'])) (by omega) (by unfold maxLen;omega) ?_;intro a' c' w1 hown1 hgrow hat)
     go_roundw
     case rel =>
       obtain ⟨m,rfl⟩:∃m,k=m+1:=⟨k-1,by omega⟩
       refine ⟨m,by omega,by congr 1;omega,?_,hfr.app (by have:=hbel.size;simp;omega) hat,Below.app (hbel.alloc hbel.size _) (by have:=hbel.size;simp;omega) hgrow hfr⟩
       have e1:n-m=n-(m+1)+1:=by omega
       rw [e1,toBytes_take v n m (by omega)]
       simpa [bv] using hown1
     case measure=>simp [intOf];omega
theorem bytes3 (v:Int) (w:World) (h0:0≤v) (h1:v<4294967296):Calls Tryz.prog 33 #[.int .u32 v,.int .i64 3] w (RetB w [v / 65536%256,v / 256%256,v%256]):=by
 have:=bytes_any v 3 w h0 h1 (by omega)
 simpa [toBytes] using this
theorem bytes4 (v:Int) (w:World) (h0:0≤v) (h1:v<4294967296):Calls Tryz.prog 33 #[.int .u32 v,.int .i64 4] w (RetB w (be32 v)):=by
 have:=bytes_any v 4 w h0 h1 (by omega)
 have e:v / 16777216%256=v / 16777216:=by omega
 simpa [toBytes,be32,e] using this
theorem bytes2 (v:Int) (w:World) (h0:0≤v) (h1:v<65536):Calls Tryz.prog 33 #[.int .u32 v,.int .i64 2] w (RetB w (be16 v)):=by
 have:=bytes_any v 2 w h0 (by omega) (by omega)
 have e:v / 256%256=v / 256:=by omega
 simpa [toBytes,be16,e] using this
def hdrS (length kind flags stream:Int):List Int:=[length / 65536%256,length / 256%256,length%256,kind,flags]++be32 stream
theorem headerBytesS_any (l k f s:Int) (w:World) (hl0:0≤l) (hl1:l<16777216) (hk0:0≤k) (hk1:k<256) (hf0:0≤f) (hf1:f<256) (hs0:0≤s) (hs1:s<4294967296) :
   Calls Tryz.prog 35 #[.int .i64 l,.int .i64 k,.int .i64 f,.int .u32 s] w (RetB w (hdrS l k f s)):=by
 go_enter Tryz.func35,Tryz.ntmps35
 go_wp2_with fail
 refine (bytes3 l _ hl0 (by omega)).mono ?_
 rintro e w1 ⟨r1,rfl,b1,o1,f1⟩
 obtain ⟨a1,c1,rfl,hc1,hm1⟩:=own_shape o1
 go_wp2_with (at_builtin;refine wpList_app E5 rfl _ _ rfl (.slice a1 3 c1) 3 _ rfl (own_alloc o1 _) 2 _ (src_of_block Tryz.underlying22 (blk_new _ _) rfl (by simp [Value.oneCell'])) (by omega) (by unfold maxLen;omega) ?_;intro a2 c2 w2 o2 g2 t2)
 have z1:=b1.size
 have B2:Below w.heap.size w w2:=Below.app (b1.alloc z1 _) (by simp<;>omega) g2 f1
 have F2:Fresh w.heap.size _:=f1.app (by simp<;>omega) t2
 refine (bytes4 s _ hs0 hs1).mono ?_
 rintro e w3 ⟨r3,rfl,b3,o3,f3⟩
 obtain ⟨a3,c3,rfl,hc3,hm3⟩:=own_shape o3
 have B3:=Below.then B2 (Nat.le_refl _) b3
 have z3:=B3.size
 have o2':=own_below o2 b3
 go_wp2_with (at_builtin;refine wpList_app E5 rfl _ _ rfl (.slice a2 5 c2) 5 _ rfl o2' 4 _ (src_of_row Tryz.underlying22 o3 (bv_one _)) (by omega) (by unfold maxLen;omega) ?_;intro a4 c4 w4 o4 g4 t4)
 go_ret
 exact ⟨_,rfl,Below.app B3 z3 g4 F2,by simpa [hdrS,be32,bv] using o4,F2.app z3 t4⟩
end Go.Proofs.YtfdlbjibninakaaGreatDoor

namespace Go.Proofs.YtfdlbjibninakaaGreatDoor
set_option maxRecDepth 10000
set_option maxHeartbeats 1000000
open Go.RowKit
def vs (s:Int):Bool:=s != 0&&decide (s<2147483648)
theorem validStreamID_any (s:Int) (w:World) (h0:0≤s) (h1:s<4294967296):Calls Tryz.prog 97 #[.int .u32 s] w fun e w'=>e = .returned (.bool (vs s))∧w=w':=by
 have hb:=u32_top s h0 h1
 have hd:(bits .and .u32 s 2147483648==0)=decide (s<2147483648):=by
   rw [hb]
   by_cases h:s<2147483648
   · have:s / 2147483648*2147483648=0:=by omega
     simp [h,this]
   · have:s / 2147483648*2147483648≠0:=by omega
     simp [h,this]
 have hv:vs s=(s != 0&&(bits .and .u32 s 2147483648==0)):=by rw [hd];rfl
 rw [hv]
 by_cases h:s=0
 · subst h
   go_enter Tryz.func97,Tryz.ntmps97
   go_wp2_with fail
   go_ret
   exact ⟨rfl,rfl⟩
 have hn:(s != 0)=true:=by simp [h]
 clear hb hd hv
 go_enter Tryz.func97,Tryz.ntmps97
 go_wp2_with fail
 go_ret
 exact ⟨by simp [h],rfl⟩
end Go.Proofs.YtfdlbjibninakaaGreatDoor

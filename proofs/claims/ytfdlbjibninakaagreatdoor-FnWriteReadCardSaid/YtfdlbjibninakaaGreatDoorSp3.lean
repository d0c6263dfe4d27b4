/- The reference's reading: the payload of a HEADERS or PUSH_PROMISE frame. -/
import Derived.Test.YtfdlbjibninakaaGreatDoorSp2
import Derived.Outline
set_option linter.unusedVariables false
set_option linter.unusedSimpArgs false
namespace Go.Proofs.YtfdlbjibninakaaGreatDoor
set_option maxRecDepth 10000
set_option maxHeartbeats 400000
open Go.RowKit
theorem inK_nil' (K:Nat→Prop):inK K (.slice none 0 0):=trivial
def SpEnd (w0 w:World) (r:Rs) (e:Ending) (w':World):Prop := ∃dv sv,e = .returned (.agg (rsX r dv sv))∧Below w.heap.size w w'∧RdB w0 dv r.x.data∧RdP w' sv r.x.set∧inK (w.heap.size ≤ ·) sv
theorem SpEnd.bad {w0 w w':World} {f c s:Int} {e:Ending} (h:SpBad w (.bad f c s) e w'):SpEnd w0 w (.bad f c s) e w':=
 ⟨_,_,h.1,h.2,rdB_nil _,RdP.nil _,inK_nil' _⟩
theorem SpEnd.nil {w0 w w':World} {f c s:Int} (h:Below w.heap.size w w'):SpEnd w0 w (.bad f c s) (.returned (.agg (rsX (.bad f c s) (.slice none 0 0) (.slice none 0 0)))) w':=
 ⟨_,_,rfl,h,rdB_nil _,RdP.nil _,inK_nil' _⟩
theorem SpEnd.ok {w0 w w':World} {x:Fr} {dv:Value} (h:Below w.heap.size w w') (hd:RdB w0 dv x.data) (hs:x.set = []):SpEnd w0 w (.ok x) (.returned (.agg (rsX (.ok x) dv (.slice none 0 0)))) w':=
 ⟨_,_,rfl,h,hd,by show RdP w' _ x.set;rw [hs];exact RdP.nil _,inK_nil' _⟩
theorem unpadded_none {w0 w:World} (h:Hd) (x:Fr) (dv sv:Value) {a:Option Addr} {n c:Nat} {b:List Int} (hx:x.fl=h.fl) (hf0:0≤h.fl) (hf1:h.fl<256) (hr:RdB w0 (.slice a n c) b) (hB:Below w0.heap.size w0 w) (hb:Bs b) (hu:Pl.sUnpad h b=none) :
   Calls Tryz.prog 41 #[.agg (frX x dv sv),.slice a n c] w fun e w'=>e = .returned (.tuple #[.slice none 0 0,.bool false])∧Below w.heap.size w w':=by
 refine (unpadded_any h x dv sv hx hf0 hf1 hr hB hb).mono ?_
 rw [hu]
 rintro e w' ⟨⟨-,rfl⟩|⟨d,dv,h,-⟩,hb⟩
 · exact ⟨rfl,hb⟩
 · cases h
def UnpOk (w0 w:World) (d:List Int) (e:Ending) (w':World):Prop := ∃a c,e = .returned (.tuple #[.slice a d.length c,.bool true])∧RdB w0 (.slice a d.length c) d∧d.length≤c∧c≤maxLen∧Below w.heap.size w w'
theorem unpadded_some {w0 w:World} (h:Hd) (x:Fr) (dv sv:Value) {a:Option Addr} {n c:Nat} {b d:List Int} (hx:x.fl=h.fl) (hf0:0≤h.fl) (hf1:h.fl<256) (hr:RdB w0 (.slice a n c) b) (hB:Below w0.heap.size w0 w) (hb:Bs b) (hu:Pl.sUnpad h b=some d) :
   Calls Tryz.prog 41 #[.agg (frX x dv sv),.slice a n c] w (UnpOk w0 w d):=by
 refine (unpadded_any h x dv sv hx hf0 hf1 hr hB hb).mono ?_
 rw [hu]
 rintro e w' ⟨⟨h,-⟩|⟨d,dv,h,rfl,hr⟩,hb⟩
 · cases h
 · cases h
   have hr':=hr
   obtain ⟨a,c,rfl,h1,h2,-⟩:=hr'
   exact ⟨a,c,rfl,hr,h1,h2,hb⟩
theorem sUnpad_bs {h:Hd} {b d:List Int} (hb:Bs b) (hu:Pl.sUnpad h b=some d):Bs d:=by
 unfold Pl.sUnpad at hu
 split at hu
 · cases b with
   | nil=>cases hu
   | cons p b =>
     simp only at hu
     split at hu
     · cases hu
     · cases hu
       exact (Bs.take (fun x hx=>hb x (List.mem_cons_of_mem _ hx)) _)
 · cases hu;exact hb
theorem sFrag_none {h:Hd} {b:List Int} (hu:Pl.sUnpad h b=none):Pl.sFrag h b = .bad 7 0 0:=by unfold Pl.sFrag;rw [hu]
theorem sFrag_push_short {h:Hd} {b d:List Int} (hu:Pl.sUnpad h b=some d) (h5:h.ty=5) (hl:d.length<4):Pl.sFrag h b = .bad 7 0 0:=by unfold Pl.sFrag;rw [hu];simp only;rw [if_pos h5,if_pos hl]
theorem sFrag_push {h:Hd} {b d:List Int} (hu:Pl.sUnpad h b=some d) (h5:h.ty=5) (hl:¬d.length<4):Pl.sFrag h b = .ok { Fr.of h with pr:=n31 d 0,data:=d.drop 4 }:=by unfold Pl.sFrag;rw [hu];simp only;rw [if_pos h5,if_neg hl]
theorem sFrag_pr_short {h:Hd} {b d:List Int} (hu:Pl.sUnpad h b=some d) (h5:h.ty≠5) (h32:bitOf h.fl 32=true) (hl:d.length<5):Pl.sFrag h b = .bad 7 0 0:=by unfold Pl.sFrag;rw [hu];simp only;rw [if_neg h5,if_pos h32,if_pos hl]
theorem sFrag_pr {h:Hd} {b d:List Int} (hu:Pl.sUnpad h b=some d) (h5:h.ty≠5) (h32:bitOf h.fl 32=true) (hl:¬d.length<5):Pl.sFrag h b = .ok { Fr.of h with hp:=true,ex:=decide (2147483648≤n32 d 0),dep:=n31 d 0,wt:=gb d 4,data:=d.drop 5 }:=by unfold Pl.sFrag;rw [hu];simp only;rw [if_neg h5,if_pos h32,if_neg hl]
theorem sFrag_no {h:Hd} {b d:List Int} (hu:Pl.sUnpad h b=some d) (h5:h.ty≠5) (h32:bitOf h.fl 32=false):Pl.sFrag h b = .ok { Fr.of h with data:=d }:=by unfold Pl.sFrag;rw [hu];simp only;rw [if_neg h5,if_neg (by rw [h32];simp)]
theorem frag_none5 {w0 w:World} (fl ln st:Int) {a:Option Addr} {n c:Nat} {b:List Int} (hf0:0≤fl) (hf1:fl<256) (hr:RdB w0 (.slice a n c) b) (hB:Below w0.heap.size w0 w) (hb:Bs b) (hu:Pl.sUnpad ⟨5,fl,ln,st⟩ b=none) :
   Calls Tryz.prog 42 #[.agg (frX (Fr.of ⟨5,fl,ln,st⟩) (.slice none 0 0) (.slice none 0 0)),.slice a n c] w (SpEnd w0 w (Pl.sFrag ⟨5,fl,ln,st⟩ b)):=by
 rw [sFrag_none hu]
 have hand:=i64_and32 fl hf0 hf1
 have hB1:Below w.heap.size w ((w.alloc (.cells #[.int .i64 5,.int .i64 fl,.int .u32 st,.int .i64 ln,.slice none 0 0,.int .u32 0,.int .u32 0,.int .u32 0,.int .u32 0,.bool false,.bool false,.int .u32 0,.int .i64 0,.slice none 0 0] 29)).alloc (.cells #[.int .i64 0,.int .u32 0,.int .u32 0,.int .i64 0,.int .i64 0,.int .u32 0,.int .i64 0,.slice none 0 0,.int .u32 0,.int .u32 0,.int .u32 0,.int .u32 0,.bool false,.bool false,.int .u32 0,.int .i64 0,.slice none 0 0] 31)):=(((Kept.refl (· < w.heap.size) w).alloc _).alloc _).below (Nat.le_refl _)
 have HR0:Hid (((w.alloc (.cells #[.int .i64 5,.int .i64 fl,.int .u32 st,.int .i64 ln,.slice none 0 0,.int .u32 0,.int .u32 0,.int .u32 0,.int .u32 0,.bool false,.bool false,.int .u32 0,.int .i64 0,.slice none 0 0] 29)).alloc (.cells #[.int .i64 0,.int .u32 0,.int .u32 0,.int .i64 0,.int .i64 0,.int .u32 0,.int .i64 0,.slice none 0 0,.int .u32 0,.int .u32 0,.int .u32 0,.int .u32 0,.bool false,.bool false,.int .u32 0,.int .i64 0,.slice none 0 0] 31)).heap[w.heap.size+1]? = some (.cells #[.int .i64 0,.int .u32 0,.int .u32 0,.int .i64 0,.int .i64 0,.int .u32 0,.int .i64 0,.slice none 0 0,.int .u32 0,.int .u32 0,.int .u32 0,.int .u32 0,.bool false,.bool false,.int .u32 0,.int .i64 0,.slice none 0 0] 31 (0,0))):=Lib.hid (blk_at _ _ (by simp))
 have HF0:Hid (((w.alloc (.cells #[.int .i64 5,.int .i64 fl,.int .u32 st,.int .i64 ln,.slice none 0 0,.int .u32 0,.int .u32 0,.int .u32 0,.int .u32 0,.bool false,.bool false,.int .u32 0,.int .i64 0,.slice none 0 0] 29)).alloc (.cells #[.int .i64 0,.int .u32 0,.int .u32 0,.int .i64 0,.int .i64 0,.int .u32 0,.int .i64 0,.slice none 0 0,.int .u32 0,.int .u32 0,.int .u32 0,.int .u32 0,.bool false,.bool false,.int .u32 0,.int .i64 0,.slice none 0 0] 31)).heap[w.heap.size]? = some (.cells #[.int .i64 5,.int .i64 fl,.int .u32 st,.int .i64 ln,.slice none 0 0,.int .u32 0,.int .u32 0,.int .u32 0,.int .u32 0,.bool false,.bool false,.int .u32 0,.int .i64 0,.slice none 0 0] 29 (0,0))):=Lib.hid (blk_alloc (blk_new w _))
 have hun:Calls Tryz.prog 41 #[.agg #[.int .i64 5,.int .i64 fl,.int .u32 st,.int .i64 ln,.slice none 0 0,.int .u32 0,.int .u32 0,.int .u32 0,.int .u32 0,.bool false,.bool false,.int .u32 0,.int .i64 0,.slice none 0 0],.slice a n c] ((w.alloc (.cells #[.int .i64 5,.int .i64 fl,.int .u32 st,.int .i64 ln,.slice none 0 0,.int .u32 0,.int .u32 0,.int .u32 0,.int .u32 0,.bool false,.bool false,.int .u32 0,.int .i64 0,.slice none 0 0] 29)).alloc (.cells #[.int .i64 0,.int .u32 0,.int .u32 0,.int .i64 0,.int .i64 0,.int .u32 0,.int .i64 0,.slice none 0 0,.int .u32 0,.int .u32 0,.int .u32 0,.int .u32 0,.bool false,.bool false,.int .u32 0,.int .i64 0,.slice none 0 0] 31)) fun e w'=>e = .returned (.tuple #[.slice none 0 0,.bool false])∧Below _ ((w.alloc (.cells #[.int .i64 5,.int .i64 fl,.int .u32 st,.int .i64 ln,.slice none 0 0,.int .u32 0,.int .u32 0,.int .u32 0,.int .u32 0,.bool false,.bool false,.int .u32 0,.int .i64 0,.slice none 0 0] 29)).alloc (.cells #[.int .i64 0,.int .u32 0,.int .u32 0,.int .i64 0,.int .i64 0,.int .u32 0,.int .i64 0,.slice none 0 0,.int .u32 0,.int .u32 0,.int .u32 0,.int .u32 0,.bool false,.bool false,.int .u32 0,.int .i64 0,.slice none 0 0] 31)) w':=unpadded_none ⟨5,fl,ln,st⟩ (Fr.of ⟨5,fl,ln,st⟩) _ _ rfl hf0 hf1 hr (hB.trans (hB1.mono hB.size)) hb hu
 show Calls Tryz.prog 42 #[.agg #[.int .i64 5,.int .i64 fl,.int .u32 st,.int .i64 ln,.slice none 0 0,.int .u32 0,.int .u32 0,.int .u32 0,.int .u32 0,.bool false,.bool false,.int .u32 0,.int .i64 0,.slice none 0 0],.slice a n c] w _
 clear hr hb hu
 go_enter Tryz.func42,Tryz.ntmps42
 go_wp2_with (first
   | (refine wpList_load_blk rfl 29 _ rfl w.heap.size rfl #[.int .i64 5,.int .i64 fl,.int .u32 st,.int .i64 ln,.slice none 0 0,.int .u32 0,.int .u32 0,.int .u32 0,.int .u32 0,.bool false,.bool false,.int .u32 0,.int .i64 0,.slice none 0 0] 29 HF0.out Tryz.underlying29 infoFs ?_)
   | (go_at_call 41;refine hun.mono ?_;rintro e w1 ⟨rfl,b1⟩;have hR1:=blk_below HR0.out b1)
   | (refine wpList_store_blk rfl 31 _ _ rfl (w.heap.size+1) rfl (rsX (.bad 7 0 0) (.slice none 0 0) (.slice none 0 0)) _ rfl 31 hR1 rfl infoRs (rsX_one _ _ _ _ _ _ _) ?_;intro w2 hb2 k2))
 refine ret_blk rfl (w.heap.size+1) _ _ rfl hb2 Tryz.underlying31 infoRs rfl (SpEnd.nil ?_)
 exact (Below.step' hB1 b1).trans ((k2.mono fun k h _=>by omega).below (Nat.le_trans hB1.size b1.size))
theorem frag_none1 {w0 w:World} (ty fl ln st:Int) {a:Option Addr} {n c:Nat} {b:List Int} (hf0:0≤fl) (hf1:fl<256) (hr:RdB w0 (.slice a n c) b) (hB:Below w0.heap.size w0 w) (hb:Bs b) (hu:Pl.sUnpad ⟨ty,fl,ln,st⟩ b=none) (h5:ty≠5) (h32:bitOf fl 32=true) :
   Calls Tryz.prog 42 #[.agg (frX (Fr.of ⟨ty,fl,ln,st⟩) (.slice none 0 0) (.slice none 0 0)),.slice a n c] w (SpEnd w0 w (Pl.sFrag ⟨ty,fl,ln,st⟩ b)):=by
 rw [sFrag_none hu]
 have hand:=i64_and32 fl hf0 hf1
 have hB1:Below w.heap.size w ((w.alloc (.cells #[.int .i64 ty,.int .i64 fl,.int .u32 st,.int .i64 ln,.slice none 0 0,.int .u32 0,.int .u32 0,.int .u32 0,.int .u32 0,.bool false,.bool false,.int .u32 0,.int .i64 0,.slice none 0 0] 29)).alloc (.cells #[.int .i64 0,.int .u32 0,.int .u32 0,.int .i64 0,.int .i64 0,.int .u32 0,.int .i64 0,.slice none 0 0,.int .u32 0,.int .u32 0,.int .u32 0,.int .u32 0,.bool false,.bool false,.int .u32 0,.int .i64 0,.slice none 0 0] 31)):=(((Kept.refl (· < w.heap.size) w).alloc _).alloc _).below (Nat.le_refl _)
 have HR0:Hid (((w.alloc (.cells #[.int .i64 ty,.int .i64 fl,.int .u32 st,.int .i64 ln,.slice none 0 0,.int .u32 0,.int .u32 0,.int .u32 0,.int .u32 0,.bool false,.bool false,.int .u32 0,.int .i64 0,.slice none 0 0] 29)).alloc (.cells #[.int .i64 0,.int .u32 0,.int .u32 0,.int .i64 0,.int .i64 0,.int .u32 0,.int .i64 0,.slice none 0 0,.int .u32 0,.int .u32 0,.int .u32 0,.int .u32 0,.bool false,.bool false,.int .u32 0,.int .i64 0,.slice none 0 0] 31)).heap[w.heap.size+1]? = some (.cells #[.int .i64 0,.int .u32 0,.int .u32 0,.int .i64 0,.int .i64 0,.int .u32 0,.int .i64 0,.slice none 0 0,.int .u32 0,.int .u32 0,.int .u32 0,.int .u32 0,.bool false,.bool false,.int .u32 0,.int .i64 0,.slice none 0 0] 31 (0,0))):=Lib.hid (blk_at _ _ (by simp))
 have HF0:Hid (((w.alloc (.cells #[.int .i64 ty,.int .i64 fl,.int .u32 st,.int .i64 ln,.slice none 0 0,.int .u32 0,.int .u32 0,.int .u32 0,.int .u32 0,.bool false,.bool false,.int .u32 0,.int .i64 0,.slice none 0 0] 29)).alloc (.cells #[.int .i64 0,.int .u32 0,.int .u32 0,.int .i64 0,.int .i64 0,.int .u32 0,.int .i64 0,.slice none 0 0,.int .u32 0,.int .u32 0,.int .u32 0,.int .u32 0,.bool false,.bool false,.int .u32 0,.int .i64 0,.slice none 0 0] 31)).heap[w.heap.size]? = some (.cells #[.int .i64 ty,.int .i64 fl,.int .u32 st,.int .i64 ln,.slice none 0 0,.int .u32 0,.int .u32 0,.int .u32 0,.int .u32 0,.bool false,.bool false,.int .u32 0,.int .i64 0,.slice none 0 0] 29 (0,0))):=Lib.hid (blk_alloc (blk_new w _))
 have hun:Calls Tryz.prog 41 #[.agg #[.int .i64 ty,.int .i64 fl,.int .u32 st,.int .i64 ln,.slice none 0 0,.int .u32 0,.int .u32 0,.int .u32 0,.int .u32 0,.bool false,.bool false,.int .u32 0,.int .i64 0,.slice none 0 0],.slice a n c] ((w.alloc (.cells #[.int .i64 ty,.int .i64 fl,.int .u32 st,.int .i64 ln,.slice none 0 0,.int .u32 0,.int .u32 0,.int .u32 0,.int .u32 0,.bool false,.bool false,.int .u32 0,.int .i64 0,.slice none 0 0] 29)).alloc (.cells #[.int .i64 0,.int .u32 0,.int .u32 0,.int .i64 0,.int .i64 0,.int .u32 0,.int .i64 0,.slice none 0 0,.int .u32 0,.int .u32 0,.int .u32 0,.int .u32 0,.bool false,.bool false,.int .u32 0,.int .i64 0,.slice none 0 0] 31)) fun e w'=>e = .returned (.tuple #[.slice none 0 0,.bool false])∧Below _ ((w.alloc (.cells #[.int .i64 ty,.int .i64 fl,.int .u32 st,.int .i64 ln,.slice none 0 0,.int .u32 0,.int .u32 0,.int .u32 0,.int .u32 0,.bool false,.bool false,.int .u32 0,.int .i64 0,.slice none 0 0] 29)).alloc (.cells #[.int .i64 0,.int .u32 0,.int .u32 0,.int .i64 0,.int .i64 0,.int .u32 0,.int .i64 0,.slice none 0 0,.int .u32 0,.int .u32 0,.int .u32 0,.int .u32 0,.bool false,.bool false,.int .u32 0,.int .i64 0,.slice none 0 0] 31)) w':=unpadded_none ⟨ty,fl,ln,st⟩ (Fr.of ⟨ty,fl,ln,st⟩) _ _ rfl hf0 hf1 hr (hB.trans (hB1.mono hB.size)) hb hu
 have h5':(ty==5)=false:=beq_false_of_ne h5
 rw [h32] at hand
 show Calls Tryz.prog 42 #[.agg #[.int .i64 ty,.int .i64 fl,.int .u32 st,.int .i64 ln,.slice none 0 0,.int .u32 0,.int .u32 0,.int .u32 0,.int .u32 0,.bool false,.bool false,.int .u32 0,.int .i64 0,.slice none 0 0],.slice a n c] w _
 clear hr hb hu
 go_enter Tryz.func42,Tryz.ntmps42
 go_wp2_with (first
   | (refine wpList_load_blk rfl 29 _ rfl w.heap.size rfl #[.int .i64 ty,.int .i64 fl,.int .u32 st,.int .i64 ln,.slice none 0 0,.int .u32 0,.int .u32 0,.int .u32 0,.int .u32 0,.bool false,.bool false,.int .u32 0,.int .i64 0,.slice none 0 0] 29 HF0.out Tryz.underlying29 infoFs ?_)
   | (go_at_call 41;refine hun.mono ?_;rintro e w1 ⟨rfl,b1⟩;have hR1:=blk_below HR0.out b1)
   | (refine wpList_store_blk rfl 31 _ _ rfl (w.heap.size+1) rfl (rsX (.bad 7 0 0) (.slice none 0 0) (.slice none 0 0)) _ rfl 31 hR1 rfl infoRs (rsX_one _ _ _ _ _ _ _) ?_;intro w2 hb2 k2))
 refine ret_blk rfl (w.heap.size+1) _ _ rfl hb2 Tryz.underlying31 infoRs rfl (SpEnd.nil ?_)
 exact (Below.step' hB1 b1).trans ((k2.mono fun k h _=>by omega).below (Nat.le_trans hB1.size b1.size))
theorem frag_none0 {w0 w:World} (ty fl ln st:Int) {a:Option Addr} {n c:Nat} {b:List Int} (hf0:0≤fl) (hf1:fl<256) (hr:RdB w0 (.slice a n c) b) (hB:Below w0.heap.size w0 w) (hb:Bs b) (hu:Pl.sUnpad ⟨ty,fl,ln,st⟩ b=none) (h5:ty≠5) (h32:bitOf fl 32=false) :
   Calls Tryz.prog 42 #[.agg (frX (Fr.of ⟨ty,fl,ln,st⟩) (.slice none 0 0) (.slice none 0 0)),.slice a n c] w (SpEnd w0 w (Pl.sFrag ⟨ty,fl,ln,st⟩ b)):=by
 rw [sFrag_none hu]
 have hand:=i64_and32 fl hf0 hf1
 have hB1:Below w.heap.size w ((w.alloc (.cells #[.int .i64 ty,.int .i64 fl,.int .u32 st,.int .i64 ln,.slice none 0 0,.int .u32 0,.int .u32 0,.int .u32 0,.int .u32 0,.bool false,.bool false,.int .u32 0,.int .i64 0,.slice none 0 0] 29)).alloc (.cells #[.int .i64 0,.int .u32 0,.int .u32 0,.int .i64 0,.int .i64 0,.int .u32 0,.int .i64 0,.slice none 0 0,.int .u32 0,.int .u32 0,.int .u32 0,.int .u32 0,.bool false,.bool false,.int .u32 0,.int .i64 0,.slice none 0 0] 31)):=(((Kept.refl (· < w.heap.size) w).alloc _).alloc _).below (Nat.le_refl _)
 have HR0:Hid (((w.alloc (.cells #[.int .i64 ty,.int .i64 fl,.int .u32 st,.int .i64 ln,.slice none 0 0,.int .u32 0,.int .u32 0,.int .u32 0,.int .u32 0,.bool false,.bool false,.int .u32 0,.int .i64 0,.slice none 0 0] 29)).alloc (.cells #[.int .i64 0,.int .u32 0,.int .u32 0,.int .i64 0,.int .i64 0,.int .u32 0,.int .i64 0,.slice none 0 0,.int .u32 0,.int .u32 0,.int .u32 0,.int .u32 0,.bool false,.bool false,.int .u32 0,.int .i64 0,.slice none 0 0] 31)).heap[w.heap.size+1]? = some (.cells #[.int .i64 0,.int .u32 0,.int .u32 0,.int .i64 0,.int .i64 0,.int .u32 0,.int .i64 0,.slice none 0 0,.int .u32 0,.int .u32 0,.int .u32 0,.int .u32 0,.bool false,.bool false,.int .u32 0,.int .i64 0,.slice none 0 0] 31 (0,0))):=Lib.hid (blk_at _ _ (by simp))
 have HF0:Hid (((w.alloc (.cells #[.int .i64 ty,.int .i64 fl,.int .u32 st,.int .i64 ln,.slice none 0 0,.int .u32 0,.int .u32 0,.int .u32 0,.int .u32 0,.bool false,.bool false,.int .u32 0,.int .i64 0,.slice none 0 0] 29)).alloc (.cells #[.int .i64 0,.int .u32 0,.int .u32 0,.int .i64 0,.int .i64 0,.int .u32 0,.int .i64 0,.slice none 0 0,.int .u32 0,.int .u32 0,.int .u32 0,.int .u32 0,.bool false,.bool false,.int .u32 0,.int .i64 0,.slice none 0 0] 31)).heap[w.heap.size]? = some (.cells #[.int .i64 ty,.int .i64 fl,.int .u32 st,.int .i64 ln,.slice none 0 0,.int .u32 0,.int .u32 0,.int .u32 0,.int .u32 0,.bool false,.bool false,.int .u32 0,.int .i64 0,.slice none 0 0] 29 (0,0))):=Lib.hid (blk_alloc (blk_new w _))
 have hun:Calls Tryz.prog 41 #[.agg #[.int .i64 ty,.int .i64 fl,.int .u32 st,.int .i64 ln,.slice none 0 0,.int .u32 0,.int .u32 0,.int .u32 0,.int .u32 0,.bool false,.bool false,.int .u32 0,.int .i64 0,.slice none 0 0],.slice a n c] ((w.alloc (.cells #[.int .i64 ty,.int .i64 fl,.int .u32 st,.int .i64 ln,.slice none 0 0,.int .u32 0,.int .u32 0,.int .u32 0,.int .u32 0,.bool false,.bool false,.int .u32 0,.int .i64 0,.slice none 0 0] 29)).alloc (.cells #[.int .i64 0,.int .u32 0,.int .u32 0,.int .i64 0,.int .i64 0,.int .u32 0,.int .i64 0,.slice none 0 0,.int .u32 0,.int .u32 0,.int .u32 0,.int .u32 0,.bool false,.bool false,.int .u32 0,.int .i64 0,.slice none 0 0] 31)) fun e w'=>e = .returned (.tuple #[.slice none 0 0,.bool false])∧Below _ ((w.alloc (.cells #[.int .i64 ty,.int .i64 fl,.int .u32 st,.int .i64 ln,.slice none 0 0,.int .u32 0,.int .u32 0,.int .u32 0,.int .u32 0,.bool false,.bool false,.int .u32 0,.int .i64 0,.slice none 0 0] 29)).alloc (.cells #[.int .i64 0,.int .u32 0,.int .u32 0,.int .i64 0,.int .i64 0,.int .u32 0,.int .i64 0,.slice none 0 0,.int .u32 0,.int .u32 0,.int .u32 0,.int .u32 0,.bool false,.bool false,.int .u32 0,.int .i64 0,.slice none 0 0] 31)) w':=unpadded_none ⟨ty,fl,ln,st⟩ (Fr.of ⟨ty,fl,ln,st⟩) _ _ rfl hf0 hf1 hr (hB.trans (hB1.mono hB.size)) hb hu
 have h5':(ty==5)=false:=beq_false_of_ne h5
 rw [h32] at hand
 show Calls Tryz.prog 42 #[.agg #[.int .i64 ty,.int .i64 fl,.int .u32 st,.int .i64 ln,.slice none 0 0,.int .u32 0,.int .u32 0,.int .u32 0,.int .u32 0,.bool false,.bool false,.int .u32 0,.int .i64 0,.slice none 0 0],.slice a n c] w _
 clear hr hb hu
 go_enter Tryz.func42,Tryz.ntmps42
 go_wp2_with (first
   | (refine wpList_load_blk rfl 29 _ rfl w.heap.size rfl #[.int .i64 ty,.int .i64 fl,.int .u32 st,.int .i64 ln,.slice none 0 0,.int .u32 0,.int .u32 0,.int .u32 0,.int .u32 0,.bool false,.bool false,.int .u32 0,.int .i64 0,.slice none 0 0] 29 HF0.out Tryz.underlying29 infoFs ?_)
   | (go_at_call 41;refine hun.mono ?_;rintro e w1 ⟨rfl,b1⟩;have hR1:=blk_below HR0.out b1)
   | (refine wpList_store_blk rfl 31 _ _ rfl (w.heap.size+1) rfl (rsX (.bad 7 0 0) (.slice none 0 0) (.slice none 0 0)) _ rfl 31 hR1 rfl infoRs (rsX_one _ _ _ _ _ _ _) ?_;intro w2 hb2 k2))
 refine ret_blk rfl (w.heap.size+1) _ _ rfl hb2 Tryz.underlying31 infoRs rfl (SpEnd.nil ?_)
 exact (Below.step' hB1 b1).trans ((k2.mono fun k h _=>by omega).below (Nat.le_trans hB1.size b1.size))
theorem frag_short5 {w0 w:World} (fl ln st:Int) {a:Option Addr} {n c:Nat} {b d:List Int} (hf0:0≤fl) (hf1:fl<256) (hr:RdB w0 (.slice a n c) b) (hB:Below w0.heap.size w0 w) (hb:Bs b) (hu:Pl.sUnpad ⟨5,fl,ln,st⟩ b=some d) (hl:d.length<4) :
   Calls Tryz.prog 42 #[.agg (frX (Fr.of ⟨5,fl,ln,st⟩) (.slice none 0 0) (.slice none 0 0)),.slice a n c] w (SpEnd w0 w (Pl.sFrag ⟨5,fl,ln,st⟩ b)):=by
 rw [sFrag_push_short hu rfl hl]
 have hand:=i64_and32 fl hf0 hf1
 have hB1:Below w.heap.size w ((w.alloc (.cells #[.int .i64 5,.int .i64 fl,.int .u32 st,.int .i64 ln,.slice none 0 0,.int .u32 0,.int .u32 0,.int .u32 0,.int .u32 0,.bool false,.bool false,.int .u32 0,.int .i64 0,.slice none 0 0] 29)).alloc (.cells #[.int .i64 0,.int .u32 0,.int .u32 0,.int .i64 0,.int .i64 0,.int .u32 0,.int .i64 0,.slice none 0 0,.int .u32 0,.int .u32 0,.int .u32 0,.int .u32 0,.bool false,.bool false,.int .u32 0,.int .i64 0,.slice none 0 0] 31)):=(((Kept.refl (· < w.heap.size) w).alloc _).alloc _).below (Nat.le_refl _)
 have HR0:Hid (((w.alloc (.cells #[.int .i64 5,.int .i64 fl,.int .u32 st,.int .i64 ln,.slice none 0 0,.int .u32 0,.int .u32 0,.int .u32 0,.int .u32 0,.bool false,.bool false,.int .u32 0,.int .i64 0,.slice none 0 0] 29)).alloc (.cells #[.int .i64 0,.int .u32 0,.int .u32 0,.int .i64 0,.int .i64 0,.int .u32 0,.int .i64 0,.slice none 0 0,.int .u32 0,.int .u32 0,.int .u32 0,.int .u32 0,.bool false,.bool false,.int .u32 0,.int .i64 0,.slice none 0 0] 31)).heap[w.heap.size+1]? = some (.cells #[.int .i64 0,.int .u32 0,.int .u32 0,.int .i64 0,.int .i64 0,.int .u32 0,.int .i64 0,.slice none 0 0,.int .u32 0,.int .u32 0,.int .u32 0,.int .u32 0,.bool false,.bool false,.int .u32 0,.int .i64 0,.slice none 0 0] 31 (0,0))):=Lib.hid (blk_at _ _ (by simp))
 have HF0:Hid (((w.alloc (.cells #[.int .i64 5,.int .i64 fl,.int .u32 st,.int .i64 ln,.slice none 0 0,.int .u32 0,.int .u32 0,.int .u32 0,.int .u32 0,.bool false,.bool false,.int .u32 0,.int .i64 0,.slice none 0 0] 29)).alloc (.cells #[.int .i64 0,.int .u32 0,.int .u32 0,.int .i64 0,.int .i64 0,.int .u32 0,.int .i64 0,.slice none 0 0,.int .u32 0,.int .u32 0,.int .u32 0,.int .u32 0,.bool false,.bool false,.int .u32 0,.int .i64 0,.slice none 0 0] 31)).heap[w.heap.size]? = some (.cells #[.int .i64 5,.int .i64 fl,.int .u32 st,.int .i64 ln,.slice none 0 0,.int .u32 0,.int .u32 0,.int .u32 0,.int .u32 0,.bool false,.bool false,.int .u32 0,.int .i64 0,.slice none 0 0] 29 (0,0))):=Lib.hid (blk_alloc (blk_new w _))
 have hun:Calls Tryz.prog 41 #[.agg #[.int .i64 5,.int .i64 fl,.int .u32 st,.int .i64 ln,.slice none 0 0,.int .u32 0,.int .u32 0,.int .u32 0,.int .u32 0,.bool false,.bool false,.int .u32 0,.int .i64 0,.slice none 0 0],.slice a n c] ((w.alloc (.cells #[.int .i64 5,.int .i64 fl,.int .u32 st,.int .i64 ln,.slice none 0 0,.int .u32 0,.int .u32 0,.int .u32 0,.int .u32 0,.bool false,.bool false,.int .u32 0,.int .i64 0,.slice none 0 0] 29)).alloc (.cells #[.int .i64 0,.int .u32 0,.int .u32 0,.int .i64 0,.int .i64 0,.int .u32 0,.int .i64 0,.slice none 0 0,.int .u32 0,.int .u32 0,.int .u32 0,.int .u32 0,.bool false,.bool false,.int .u32 0,.int .i64 0,.slice none 0 0] 31)) (UnpOk w0 ((w.alloc (.cells #[.int .i64 5,.int .i64 fl,.int .u32 st,.int .i64 ln,.slice none 0 0,.int .u32 0,.int .u32 0,.int .u32 0,.int .u32 0,.bool false,.bool false,.int .u32 0,.int .i64 0,.slice none 0 0] 29)).alloc (.cells #[.int .i64 0,.int .u32 0,.int .u32 0,.int .i64 0,.int .i64 0,.int .u32 0,.int .i64 0,.slice none 0 0,.int .u32 0,.int .u32 0,.int .u32 0,.int .u32 0,.bool false,.bool false,.int .u32 0,.int .i64 0,.slice none 0 0] 31)) d):=unpadded_some ⟨5,fl,ln,st⟩ (Fr.of ⟨5,fl,ln,st⟩) _ _ rfl hf0 hf1 hr (hB.trans (hB1.mono hB.size)) hb hu
 show Calls Tryz.prog 42 #[.agg #[.int .i64 5,.int .i64 fl,.int .u32 st,.int .i64 ln,.slice none 0 0,.int .u32 0,.int .u32 0,.int .u32 0,.int .u32 0,.bool false,.bool false,.int .u32 0,.int .i64 0,.slice none 0 0],.slice a n c] w _
 clear hr hb hu
 go_enter Tryz.func42,Tryz.ntmps42
 go_wp2_with (first
   | (refine wpList_load_blk rfl 29 _ rfl w.heap.size rfl #[.int .i64 5,.int .i64 fl,.int .u32 st,.int .i64 ln,.slice none 0 0,.int .u32 0,.int .u32 0,.int .u32 0,.int .u32 0,.bool false,.bool false,.int .u32 0,.int .i64 0,.slice none 0 0] 29 HF0.out Tryz.underlying29 infoFs ?_)
   | (go_at_call 41;refine hun.mono ?_;rintro e w1 ⟨da,dc,rfl,hrd,hdc,hdm,b1⟩;have hR1:=blk_below HR0.out b1;unfold maxLen at hdm)
   | (refine wpList_store_blk rfl 31 _ _ rfl (w.heap.size+1) rfl (rsX (.bad 7 0 0) (.slice none 0 0) (.slice none 0 0)) _ rfl 31 hR1 rfl infoRs (rsX_one _ _ _ _ _ _ _) ?_;intro w2 hb2 k2))
 refine ret_blk rfl (w.heap.size+1) _ _ rfl hb2 Tryz.underlying31 infoRs rfl (SpEnd.nil ?_)
 exact (Below.step' hB1 b1).trans ((k2.mono fun k h _=>by omega).below (Nat.le_trans hB1.size b1.size))
theorem frag_short1 {w0 w:World} (ty fl ln st:Int) {a:Option Addr} {n c:Nat} {b d:List Int} (hf0:0≤fl) (hf1:fl<256) (hr:RdB w0 (.slice a n c) b) (hB:Below w0.heap.size w0 w) (hb:Bs b) (hu:Pl.sUnpad ⟨ty,fl,ln,st⟩ b=some d) (h5:ty≠5) (h32:bitOf fl 32=true) (hl:d.length<5) :
   Calls Tryz.prog 42 #[.agg (frX (Fr.of ⟨ty,fl,ln,st⟩) (.slice none 0 0) (.slice none 0 0)),.slice a n c] w (SpEnd w0 w (Pl.sFrag ⟨ty,fl,ln,st⟩ b)):=by
 rw [sFrag_pr_short hu h5 h32 hl]
 have hand:=i64_and32 fl hf0 hf1
 have hB1:Below w.heap.size w ((w.alloc (.cells #[.int .i64 ty,.int .i64 fl,.int .u32 st,.int .i64 ln,.slice none 0 0,.int .u32 0,.int .u32 0,.int .u32 0,.int .u32 0,.bool false,.bool false,.int .u32 0,.int .i64 0,.slice none 0 0] 29)).alloc (.cells #[.int .i64 0,.int .u32 0,.int .u32 0,.int .i64 0,.int .i64 0,.int .u32 0,.int .i64 0,.slice none 0 0,.int .u32 0,.int .u32 0,.int .u32 0,.int .u32 0,.bool false,.bool false,.int .u32 0,.int .i64 0,.slice none 0 0] 31)):=(((Kept.refl (· < w.heap.size) w).alloc _).alloc _).below (Nat.le_refl _)
 have HR0:Hid (((w.alloc (.cells #[.int .i64 ty,.int .i64 fl,.int .u32 st,.int .i64 ln,.slice none 0 0,.int .u32 0,.int .u32 0,.int .u32 0,.int .u32 0,.bool false,.bool false,.int .u32 0,.int .i64 0,.slice none 0 0] 29)).alloc (.cells #[.int .i64 0,.int .u32 0,.int .u32 0,.int .i64 0,.int .i64 0,.int .u32 0,.int .i64 0,.slice none 0 0,.int .u32 0,.int .u32 0,.int .u32 0,.int .u32 0,.bool false,.bool false,.int .u32 0,.int .i64 0,.slice none 0 0] 31)).heap[w.heap.size+1]? = some (.cells #[.int .i64 0,.int .u32 0,.int .u32 0,.int .i64 0,.int .i64 0,.int .u32 0,.int .i64 0,.slice none 0 0,.int .u32 0,.int .u32 0,.int .u32 0,.int .u32 0,.bool false,.bool false,.int .u32 0,.int .i64 0,.slice none 0 0] 31 (0,0))):=Lib.hid (blk_at _ _ (by simp))
 have HF0:Hid (((w.alloc (.cells #[.int .i64 ty,.int .i64 fl,.int .u32 st,.int .i64 ln,.slice none 0 0,.int .u32 0,.int .u32 0,.int .u32 0,.int .u32 0,.bool false,.bool false,.int .u32 0,.int .i64 0,.slice none 0 0] 29)).alloc (.cells #[.int .i64 0,.int .u32 0,.int .u32 0,.int .i64 0,.int .i64 0,.int .u32 0,.int .i64 0,.slice none 0 0,.int .u32 0,.int .u32 0,.int .u32 0,.int .u32 0,.bool false,.bool false,.int .u32 0,.int .i64 0,.slice none 0 0] 31)).heap[w.heap.size]? = some (.cells #[.int .i64 ty,.int .i64 fl,.int .u32 st,.int .i64 ln,.slice none 0 0,.int .u32 0,.int .u32 0,.int .u32 0,.int .u32 0,.bool false,.bool false,.int .u32 0,.int .i64 0,.slice none 0 0] 29 (0,0))):=Lib.hid (blk_alloc (blk_new w _))
 have hun:Calls Tryz.prog 41 #[.agg #[.int .i64 ty,.int .i64 fl,.int .u32 st,.int .i64 ln,.slice none 0 0,.int .u32 0,.int .u32 0,.int .u32 0,.int .u32 0,.bool false,.bool false,.int .u32 0,.int .i64 0,.slice none 0 0],.slice a n c] ((w.alloc (.cells #[.int .i64 ty,.int .i64 fl,.int .u32 st,.int .i64 ln,.slice none 0 0,.int .u32 0,.int .u32 0,.int .u32 0,.int .u32 0,.bool false,.bool false,.int .u32 0,.int .i64 0,.slice none 0 0] 29)).alloc (.cells #[.int .i64 0,.int .u32 0,.int .u32 0,.int .i64 0,.int .i64 0,.int .u32 0,.int .i64 0,.slice none 0 0,.int .u32 0,.int .u32 0,.int .u32 0,.int .u32 0,.bool false,.bool false,.int .u32 0,.int .i64 0,.slice none 0 0] 31)) (UnpOk w0 ((w.alloc (.cells #[.int .i64 ty,.int .i64 fl,.int .u32 st,.int .i64 ln,.slice none 0 0,.int .u32 0,.int .u32 0,.int .u32 0,.int .u32 0,.bool false,.bool false,.int .u32 0,.int .i64 0,.slice none 0 0] 29)).alloc (.cells #[.int .i64 0,.int .u32 0,.int .u32 0,.int .i64 0,.int .i64 0,.int .u32 0,.int .i64 0,.slice none 0 0,.int .u32 0,.int .u32 0,.int .u32 0,.int .u32 0,.bool false,.bool false,.int .u32 0,.int .i64 0,.slice none 0 0] 31)) d):=unpadded_some ⟨ty,fl,ln,st⟩ (Fr.of ⟨ty,fl,ln,st⟩) _ _ rfl hf0 hf1 hr (hB.trans (hB1.mono hB.size)) hb hu
 have h5':(ty==5)=false:=beq_false_of_ne h5
 rw [h32] at hand
 show Calls Tryz.prog 42 #[.agg #[.int .i64 ty,.int .i64 fl,.int .u32 st,.int .i64 ln,.slice none 0 0,.int .u32 0,.int .u32 0,.int .u32 0,.int .u32 0,.bool false,.bool false,.int .u32 0,.int .i64 0,.slice none 0 0],.slice a n c] w _
 clear hr hb hu
 go_enter Tryz.func42,Tryz.ntmps42
 go_wp2_with (first
   | (refine wpList_load_blk rfl 29 _ rfl w.heap.size rfl #[.int .i64 ty,.int .i64 fl,.int .u32 st,.int .i64 ln,.slice none 0 0,.int .u32 0,.int .u32 0,.int .u32 0,.int .u32 0,.bool false,.bool false,.int .u32 0,.int .i64 0,.slice none 0 0] 29 HF0.out Tryz.underlying29 infoFs ?_)
   | (go_at_call 41;refine hun.mono ?_;rintro e w1 ⟨da,dc,rfl,hrd,hdc,hdm,b1⟩;have hR1:=blk_below HR0.out b1;unfold maxLen at hdm)
   | (refine wpList_store_blk rfl 31 _ _ rfl (w.heap.size+1) rfl (rsX (.bad 7 0 0) (.slice none 0 0) (.slice none 0 0)) _ rfl 31 hR1 rfl infoRs (rsX_one _ _ _ _ _ _ _) ?_;intro w2 hb2 k2))
 refine ret_blk rfl (w.heap.size+1) _ _ rfl hb2 Tryz.underlying31 infoRs rfl (SpEnd.nil ?_)
 exact (Below.step' hB1 b1).trans ((k2.mono fun k h _=>by omega).below (Nat.le_trans hB1.size b1.size))
theorem sp_fin {w w1 w2:World} (h:Below w.heap.size w w1) (k:Kept (· ≠ w.heap.size+1) w1 w2):Below w.heap.size w w2:=h.trans ((k.mono fun k h _=>by omega).below h.size)
theorem SpEnd.fr {w0 w w':World} {x y:Fr} {dv:Value} (h:Below w.heap.size w w') (hd:RdB w0 dv x.data) (hs:x.set = []) (hxy:frX x dv (.slice none 0 0)=frX y dv (.slice none 0 0)):SpEnd w0 w (.ok x) (.returned (.agg (rsC 0 0 0 (frX y dv (.slice none 0 0))))) w':=by
 have:=SpEnd.ok (w:=w) (w':=w') h hd hs
 rw [←hxy]
 exact this
theorem frag_push {w0 w:World} (fl ln st:Int) {a:Option Addr} {n c:Nat} {b d:List Int} (hf0:0≤fl) (hf1:fl<256) (hr:RdB w0 (.slice a n c) b) (hB:Below w0.heap.size w0 w) (hb:Bs b) (hu:Pl.sUnpad ⟨5,fl,ln,st⟩ b=some d) (hl:¬d.length<4) :
   Calls Tryz.prog 42 #[.agg (frX (Fr.of ⟨5,fl,ln,st⟩) (.slice none 0 0) (.slice none 0 0)),.slice a n c] w (SpEnd w0 w (Pl.sFrag ⟨5,fl,ln,st⟩ b)):=by
 rw [sFrag_push hu rfl hl]
 have hand:=i64_and32 fl hf0 hf1
 have hB1:Below w.heap.size w ((w.alloc (.cells #[.int .i64 5,.int .i64 fl,.int .u32 st,.int .i64 ln,.slice none 0 0,.int .u32 0,.int .u32 0,.int .u32 0,.int .u32 0,.bool false,.bool false,.int .u32 0,.int .i64 0,.slice none 0 0] 29)).alloc (.cells #[.int .i64 0,.int .u32 0,.int .u32 0,.int .i64 0,.int .i64 0,.int .u32 0,.int .i64 0,.slice none 0 0,.int .u32 0,.int .u32 0,.int .u32 0,.int .u32 0,.bool false,.bool false,.int .u32 0,.int .i64 0,.slice none 0 0] 31)):=(((Kept.refl (· < w.heap.size) w).alloc _).alloc _).below (Nat.le_refl _)
 have HR0:Hid (((w.alloc (.cells #[.int .i64 5,.int .i64 fl,.int .u32 st,.int .i64 ln,.slice none 0 0,.int .u32 0,.int .u32 0,.int .u32 0,.int .u32 0,.bool false,.bool false,.int .u32 0,.int .i64 0,.slice none 0 0] 29)).alloc (.cells #[.int .i64 0,.int .u32 0,.int .u32 0,.int .i64 0,.int .i64 0,.int .u32 0,.int .i64 0,.slice none 0 0,.int .u32 0,.int .u32 0,.int .u32 0,.int .u32 0,.bool false,.bool false,.int .u32 0,.int .i64 0,.slice none 0 0] 31)).heap[w.heap.size+1]? = some (.cells #[.int .i64 0,.int .u32 0,.int .u32 0,.int .i64 0,.int .i64 0,.int .u32 0,.int .i64 0,.slice none 0 0,.int .u32 0,.int .u32 0,.int .u32 0,.int .u32 0,.bool false,.bool false,.int .u32 0,.int .i64 0,.slice none 0 0] 31 (0,0))):=Lib.hid (blk_at _ _ (by simp))
 have HF0:Hid (((w.alloc (.cells #[.int .i64 5,.int .i64 fl,.int .u32 st,.int .i64 ln,.slice none 0 0,.int .u32 0,.int .u32 0,.int .u32 0,.int .u32 0,.bool false,.bool false,.int .u32 0,.int .i64 0,.slice none 0 0] 29)).alloc (.cells #[.int .i64 0,.int .u32 0,.int .u32 0,.int .i64 0,.int .i64 0,.int .u32 0,.int .i64 0,.slice none 0 0,.int .u32 0,.int .u32 0,.int .u32 0,.int .u32 0,.bool false,.bool false,.int .u32 0,.int .i64 0,.slice none 0 0] 31)).heap[w.heap.size]? = some (.cells #[.int .i64 5,.int .i64 fl,.int .u32 st,.int .i64 ln,.slice none 0 0,.int .u32 0,.int .u32 0,.int .u32 0,.int .u32 0,.bool false,.bool false,.int .u32 0,.int .i64 0,.slice none 0 0] 29 (0,0))):=Lib.hid (blk_alloc (blk_new w _))
 have hun:Calls Tryz.prog 41 #[.agg #[.int .i64 5,.int .i64 fl,.int .u32 st,.int .i64 ln,.slice none 0 0,.int .u32 0,.int .u32 0,.int .u32 0,.int .u32 0,.bool false,.bool false,.int .u32 0,.int .i64 0,.slice none 0 0],.slice a n c] ((w.alloc (.cells #[.int .i64 5,.int .i64 fl,.int .u32 st,.int .i64 ln,.slice none 0 0,.int .u32 0,.int .u32 0,.int .u32 0,.int .u32 0,.bool false,.bool false,.int .u32 0,.int .i64 0,.slice none 0 0] 29)).alloc (.cells #[.int .i64 0,.int .u32 0,.int .u32 0,.int .i64 0,.int .i64 0,.int .u32 0,.int .i64 0,.slice none 0 0,.int .u32 0,.int .u32 0,.int .u32 0,.int .u32 0,.bool false,.bool false,.int .u32 0,.int .i64 0,.slice none 0 0] 31)) (UnpOk w0 ((w.alloc (.cells #[.int .i64 5,.int .i64 fl,.int .u32 st,.int .i64 ln,.slice none 0 0,.int .u32 0,.int .u32 0,.int .u32 0,.int .u32 0,.bool false,.bool false,.int .u32 0,.int .i64 0,.slice none 0 0] 29)).alloc (.cells #[.int .i64 0,.int .u32 0,.int .u32 0,.int .i64 0,.int .i64 0,.int .u32 0,.int .i64 0,.slice none 0 0,.int .u32 0,.int .u32 0,.int .u32 0,.int .u32 0,.bool false,.bool false,.int .u32 0,.int .i64 0,.slice none 0 0] 31)) d):=unpadded_some ⟨5,fl,ln,st⟩ (Fr.of ⟨5,fl,ln,st⟩) _ _ rfl hf0 hf1 hr (hB.trans (hB1.mono hB.size)) hb hu
 have hbd:Bs d:=sUnpad_bs hb hu
 have hb32:=Pl.n32_bd (b:=d) hbd 0
 have hlow:bits .and .u32 (n32 d 0) 2147483647=n31 d 0:=u32_low _ hb32.1 hb32.2
 show Calls Tryz.prog 42 #[.agg #[.int .i64 5,.int .i64 fl,.int .u32 st,.int .i64 ln,.slice none 0 0,.int .u32 0,.int .u32 0,.int .u32 0,.int .u32 0,.bool false,.bool false,.int .u32 0,.int .i64 0,.slice none 0 0],.slice a n c] w _
 clear hr hb hu
 go_enter Tryz.func42,Tryz.ntmps42
 go_wp2_with (refine wpList_load_blk rfl 29 _ rfl w.heap.size rfl #[.int .i64 5,.int .i64 fl,.int .u32 st,.int .i64 ln,.slice none 0 0,.int .u32 0,.int .u32 0,.int .u32 0,.int .u32 0,.bool false,.bool false,.int .u32 0,.int .i64 0,.slice none 0 0] 29 HF0.out Tryz.underlying29 infoFs ?_)
 refine hun.mono ?_
 rintro e w1 ⟨da,dc,rfl,hrd,hdc,hdm,b1⟩
 have HF1:Hid (w1.heap[w.heap.size]? = some (.cells (frX (Fr.of ⟨5,fl,ln,st⟩) (.slice none 0 0) (.slice none 0 0)) 29 (0,0))):=Lib.hid (blk_below HF0.out b1)
 have HR1:Hid (w1.heap[w.heap.size+1]? = some (.cells rsZ 31 (0,0))):=Lib.hid (blk_below HR0.out b1)
 have B1:=Below.step' hB1 b1
 clear hun b1
 unfold maxLen at hdm
 have hrd1:=hrd.below (hB.trans (B1.mono hB.size))
 have sz1:=B1.size
 have c0:w1.cell? ⟨w.heap.size,0,none⟩=some (.int .i64 5):=blk_cell HF1.out 0
 have f0:=blk_free HF1.out 0
 have c5:w1.cell? ⟨w.heap.size,5,none⟩=some (.int .u32 0):=blk_cell HF1.out 5
 have f5:=blk_free HF1.out 5
 have c4:w1.cell? ⟨w.heap.size,4,none⟩=some (.slice none 0 0):=blk_cell HF1.out 4
 have f4:=blk_free HF1.out 4
 obtain ⟨v4,hsl,hr4,-⟩:=slice_from hrd E5.sl E5s (n:=4) (by omega)
 obtain ⟨a4,c4,rfl,-,-,-⟩:=id hr4
 rw [List.length_drop] at hsl hr4
 have hsl':∀w,(Instr.slice 22 (.slice da d.length dc) (some (.int .i64 4)) none none).run Tryz.prog w = .ok (.slice a4 (d.length-4) c4) w:=hsl
 clear hsl
 have h4:=number4 hrd1 hbd (by omega)
 clear hb32
 generalize n31 d 0=pv at *
 generalize n32 d 0=pw at *
 have HR4:=Lib.hid hr4
 clear hr4 hrd
 go_wp2_with fail
 refine h4.mono ?_
 rintro e w' ⟨rfl,rfl⟩
 clear h4 c5 f5 f4
 go_wp2_with (first
   | (refine wpList_store_cell rfl 26 _ _ rfl w.heap.size 5 rfl (.int .u32 pv) rfl rfl infoU32 _ 29 HF1.out (frX_lt (by decide)) ?_;intro w2 hF2 k2;rw [frX_pr] at hF2;have HF2:=Lib.hid hF2;have HR2:=Lib.hid (k2.at (Nat.succ_ne_self _) HR1.out);have B2:=B1.trans ((k2.mono fun k h _=>Nat.ne_of_lt h).below B1.size);have d4:w2.cell? ⟨w.heap.size,4,none⟩=some (.slice none 0 0):=blk_cell hF2 4;have e4:=blk_free hF2 4;clear hF2 k2)
   | (refine wpList_store_cell rfl 22 _ _ rfl w.heap.size 4 rfl (.slice a4 (d.length-4) c4) rfl rfl infoSl _ 29 HF2.out (frX_lt (by decide)) ?_;intro w3 hF3 k3';rw [frX_data] at hF3;have HF3:=Lib.hid hF3;have HR3:=Lib.hid (k3'.at (Nat.succ_ne_self _) HR2.out);have B3:=B2.trans ((k3'.mono fun k h _=>Nat.ne_of_lt h).below B2.size);clear hF3 k3' d4 e4)
   | (refine wpList_load_blk rfl 29 _ rfl w.heap.size rfl (frX { Fr.of ⟨5,fl,ln,st⟩ with pr:=pv } (.slice a4 (d.length-4) c4) (.slice none 0 0)) 29 HF3.out Tryz.underlying29 (infoFsX _ _ _) ?_)
   | (refine wpList_build_rs rfl _ rfl (frX { Fr.of ⟨5,fl,ln,st⟩ with pr:=pv } (.slice a4 (d.length-4) c4) (.slice none 0 0)) rfl (frX_size14 _ _ _) ?_)
   | (refine wpList_store_blk rfl 31 _ _ rfl (w.heap.size+1) rfl (rsC 0 0 0 (frX { Fr.of ⟨5,fl,ln,st⟩ with pr:=pv } (.slice a4 (d.length-4) c4) (.slice none 0 0))) rsZ rfl 31 HR3.out (rsC_size _ _ _ _ _ _) (infoRsC _ _ _ _ _ _) (rsC_one _ _ _ _ _ _ _ _ _ _) ?_;intro w3 hb3 k3))
 refine ret_blk rfl (w.heap.size+1) _ _ rfl hb3 Tryz.underlying31 (infoRsC _ _ _ _ _ _) rfl (SpEnd.fr ?_ HR4.out rfl rfl)
 exact sp_fin B3 k3
theorem frag_prio {w0 w:World} (ty fl ln st:Int) {a:Option Addr} {n c:Nat} {b d:List Int} (hf0:0≤fl) (hf1:fl<256) (hr:RdB w0 (.slice a n c) b) (hB:Below w0.heap.size w0 w) (hb:Bs b) (hu:Pl.sUnpad ⟨ty,fl,ln,st⟩ b=some d) (h5:ty≠5) (h32:bitOf fl 32=true) (hl:¬d.length<5) :
   Calls Tryz.prog 42 #[.agg (frX (Fr.of ⟨ty,fl,ln,st⟩) (.slice none 0 0) (.slice none 0 0)),.slice a n c] w (SpEnd w0 w (Pl.sFrag ⟨ty,fl,ln,st⟩ b)):=by
 rw [sFrag_pr hu h5 h32 hl]
 have hand:=i64_and32 fl hf0 hf1
 have hB1:Below w.heap.size w ((w.alloc (.cells #[.int .i64 ty,.int .i64 fl,.int .u32 st,.int .i64 ln,.slice none 0 0,.int .u32 0,.int .u32 0,.int .u32 0,.int .u32 0,.bool false,.bool false,.int .u32 0,.int .i64 0,.slice none 0 0] 29)).alloc (.cells #[.int .i64 0,.int .u32 0,.int .u32 0,.int .i64 0,.int .i64 0,.int .u32 0,.int .i64 0,.slice none 0 0,.int .u32 0,.int .u32 0,.int .u32 0,.int .u32 0,.bool false,.bool false,.int .u32 0,.int .i64 0,.slice none 0 0] 31)):=(((Kept.refl (· < w.heap.size) w).alloc _).alloc _).below (Nat.le_refl _)
 have HR0:Hid (((w.alloc (.cells #[.int .i64 ty,.int .i64 fl,.int .u32 st,.int .i64 ln,.slice none 0 0,.int .u32 0,.int .u32 0,.int .u32 0,.int .u32 0,.bool false,.bool false,.int .u32 0,.int .i64 0,.slice none 0 0] 29)).alloc (.cells #[.int .i64 0,.int .u32 0,.int .u32 0,.int .i64 0,.int .i64 0,.int .u32 0,.int .i64 0,.slice none 0 0,.int .u32 0,.int .u32 0,.int .u32 0,.int .u32 0,.bool false,.bool false,.int .u32 0,.int .i64 0,.slice none 0 0] 31)).heap[w.heap.size+1]? = some (.cells #[.int .i64 0,.int .u32 0,.int .u32 0,.int .i64 0,.int .i64 0,.int .u32 0,.int .i64 0,.slice none 0 0,.int .u32 0,.int .u32 0,.int .u32 0,.int .u32 0,.bool false,.bool false,.int .u32 0,.int .i64 0,.slice none 0 0] 31 (0,0))):=Lib.hid (blk_at _ _ (by simp))
 have HF0:Hid (((w.alloc (.cells #[.int .i64 ty,.int .i64 fl,.int .u32 st,.int .i64 ln,.slice none 0 0,.int .u32 0,.int .u32 0,.int .u32 0,.int .u32 0,.bool false,.bool false,.int .u32 0,.int .i64 0,.slice none 0 0] 29)).alloc (.cells #[.int .i64 0,.int .u32 0,.int .u32 0,.int .i64 0,.int .i64 0,.int .u32 0,.int .i64 0,.slice none 0 0,.int .u32 0,.int .u32 0,.int .u32 0,.int .u32 0,.bool false,.bool false,.int .u32 0,.int .i64 0,.slice none 0 0] 31)).heap[w.heap.size]? = some (.cells #[.int .i64 ty,.int .i64 fl,.int .u32 st,.int .i64 ln,.slice none 0 0,.int .u32 0,.int .u32 0,.int .u32 0,.int .u32 0,.bool false,.bool false,.int .u32 0,.int .i64 0,.slice none 0 0] 29 (0,0))):=Lib.hid (blk_alloc (blk_new w _))
 have hun:Calls Tryz.prog 41 #[.agg #[.int .i64 ty,.int .i64 fl,.int .u32 st,.int .i64 ln,.slice none 0 0,.int .u32 0,.int .u32 0,.int .u32 0,.int .u32 0,.bool false,.bool false,.int .u32 0,.int .i64 0,.slice none 0 0],.slice a n c] ((w.alloc (.cells #[.int .i64 ty,.int .i64 fl,.int .u32 st,.int .i64 ln,.slice none 0 0,.int .u32 0,.int .u32 0,.int .u32 0,.int .u32 0,.bool false,.bool false,.int .u32 0,.int .i64 0,.slice none 0 0] 29)).alloc (.cells #[.int .i64 0,.int .u32 0,.int .u32 0,.int .i64 0,.int .i64 0,.int .u32 0,.int .i64 0,.slice none 0 0,.int .u32 0,.int .u32 0,.int .u32 0,.int .u32 0,.bool false,.bool false,.int .u32 0,.int .i64 0,.slice none 0 0] 31)) (UnpOk w0 ((w.alloc (.cells #[.int .i64 ty,.int .i64 fl,.int .u32 st,.int .i64 ln,.slice none 0 0,.int .u32 0,.int .u32 0,.int .u32 0,.int .u32 0,.bool false,.bool false,.int .u32 0,.int .i64 0,.slice none 0 0] 29)).alloc (.cells #[.int .i64 0,.int .u32 0,.int .u32 0,.int .i64 0,.int .i64 0,.int .u32 0,.int .i64 0,.slice none 0 0,.int .u32 0,.int .u32 0,.int .u32 0,.int .u32 0,.bool false,.bool false,.int .u32 0,.int .i64 0,.slice none 0 0] 31)) d):=unpadded_some ⟨ty,fl,ln,st⟩ (Fr.of ⟨ty,fl,ln,st⟩) _ _ rfl hf0 hf1 hr (hB.trans (hB1.mono hB.size)) hb hu
 have hbd:Bs d:=sUnpad_bs hb hu
 have h5':(ty==5)=false:=beq_false_of_ne h5
 rw [h32] at hand
 show Calls Tryz.prog 42 #[.agg #[.int .i64 ty,.int .i64 fl,.int .u32 st,.int .i64 ln,.slice none 0 0,.int .u32 0,.int .u32 0,.int .u32 0,.int .u32 0,.bool false,.bool false,.int .u32 0,.int .i64 0,.slice none 0 0],.slice a n c] w _
 clear hr hb hu
 go_enter Tryz.func42,Tryz.ntmps42
 go_wp2_with (refine wpList_load_blk rfl 29 _ rfl w.heap.size rfl #[.int .i64 ty,.int .i64 fl,.int .u32 st,.int .i64 ln,.slice none 0 0,.int .u32 0,.int .u32 0,.int .u32 0,.int .u32 0,.bool false,.bool false,.int .u32 0,.int .i64 0,.slice none 0 0] 29 HF0.out Tryz.underlying29 infoFs ?_)
 refine hun.mono ?_
 rintro e w1 ⟨da,dc,rfl,hrd,hdc,hdm,b1⟩
 have HF1:Hid (w1.heap[w.heap.size]? = some (.cells (frX (Fr.of ⟨ty,fl,ln,st⟩) (.slice none 0 0) (.slice none 0 0)) 29 (0,0))):=Lib.hid (blk_below HF0.out b1)
 have HR1:Hid (w1.heap[w.heap.size+1]? = some (.cells rsZ 31 (0,0))):=Lib.hid (blk_below HR0.out b1)
 have B1:=Below.step' hB1 b1
 clear hun b1
 unfold maxLen at hdm
 have hrd1:=hrd.below (hB.trans (B1.mono hB.size))
 have sz1:=B1.size
 have c0:w1.cell? ⟨w.heap.size,0,none⟩=some (.int .i64 ty):=blk_cell HF1.out 0
 have f0:=blk_free HF1.out 0
 have c9:w1.cell? ⟨w.heap.size,9,none⟩=some (.bool false):=blk_cell HF1.out 9
 have f9:=blk_free HF1.out 9
 have c4:w1.cell? ⟨w.heap.size,4,none⟩=some (.slice none 0 0):=blk_cell HF1.out 4
 have f4:=blk_free HF1.out 4
 obtain ⟨v4,hsl,hr4,-⟩:=slice_from hrd E5.sl E5s (n:=5) (by omega)
 obtain ⟨a4,c4,rfl,-,-,-⟩:=id hr4
 rw [List.length_drop] at hsl hr4
 have hsl':∀w,(Instr.slice 22 (.slice da d.length dc) (some (.int .i64 5)) none none).run Tryz.prog w = .ok (.slice a4 (d.length-5) c4) w:=hsl
 clear hsl
 have HD:=Lib.hid hrd
 have HF3:Hid (∀(p:Bool),(w1.setCell ⟨w.heap.size,9,none⟩ (.bool p)).heap[w.heap.size]? = some (.cells (frX { Fr.of ⟨ty,fl,ln,st⟩ with hp:=p } (.slice none 0 0) (.slice none 0 0)) 29 (0,0))):=Lib.hid fun p=>by have:=blk_set HF1.out 9 (.bool p);rw [frX_hp] at this;exact this
 have HR4:=Lib.hid hr4
 clear hr4 hrd
 go_wp2_with fail
 refine (dependency_any (x:={ Fr.of ⟨ty,fl,ln,st⟩ with hp:=true }) (dv:=.slice none 0 0) (sv:=.slice none 0 0) (HF3.out _) (HD.out.below ((hB.trans (B1.mono hB.size)).setCell hB.size _)) hbd (by omega)).mono ?_
 rintro e w2 ⟨rfl,hF2,k2⟩
 have d4:w2.cell? ⟨w.heap.size,4,none⟩=some (.slice none 0 0):=blk_cell hF2 4
 have e4:=blk_free hF2 4
 have HF4:Hid (∀(v:Value),(w2.setCell ⟨w.heap.size,4,none⟩ v).heap[w.heap.size]? = some (.cells (frX { Fr.of ⟨ty,fl,ln,st⟩ with hp:=true,ex:=decide (2147483648≤n32 d 0),dep:=n31 d 0,wt:=gb d 4 } v (.slice none 0 0)) 29 (0,0))):=Lib.hid fun v=>by have:=blk_set hF2 4 v;rw [frX_data] at this;exact this
 have HR4':Hid (∀v,(w2.setCell ⟨w.heap.size,4,none⟩ v).heap[w.heap.size+1]? = some (.cells rsZ 31 (0,0))):=Lib.hid fun v=>blk_set_other (k2.at (Nat.succ_ne_self _) (blk_set_other HR1.out (Nat.succ_ne_self _) _)) (Nat.succ_ne_self _) _
 have B2:=(B1.setCell (p:=⟨w.heap.size,9,none⟩) (Nat.le_refl _) (.bool true)).trans ((k2.mono fun k h _=>Nat.ne_of_lt h).below (by simp;omega))
 clear hF2 k2
 go_wp2_with (first
   | (refine wpList_load_blk rfl 29 _ rfl w.heap.size rfl (frX { Fr.of ⟨ty,fl,ln,st⟩ with hp:=true,ex:=decide (2147483648≤n32 d 0),dep:=n31 d 0,wt:=gb d 4 } (.slice a4 (d.length-5) c4) (.slice none 0 0)) 29 (HF4.out _) Tryz.underlying29 (infoFsX _ _ _) ?_)
   | (refine wpList_build_rs rfl _ rfl (frX { Fr.of ⟨ty,fl,ln,st⟩ with hp:=true,ex:=decide (2147483648≤n32 d 0),dep:=n31 d 0,wt:=gb d 4 } (.slice a4 (d.length-5) c4) (.slice none 0 0)) rfl (frX_size14 _ _ _) ?_)
   | (refine wpList_store_blk rfl 31 _ _ rfl (w.heap.size+1) rfl (rsC 0 0 0 (frX { Fr.of ⟨ty,fl,ln,st⟩ with hp:=true,ex:=decide (2147483648≤n32 d 0),dep:=n31 d 0,wt:=gb d 4 } (.slice a4 (d.length-5) c4) (.slice none 0 0))) rsZ rfl 31 (HR4'.out _) (rsC_size _ _ _ _ _ _) (infoRsC _ _ _ _ _ _) (rsC_one _ _ _ _ _ _ _ _ _ _) ?_;intro w3 hb3 k3))
 refine ret_blk rfl (w.heap.size+1) _ _ rfl hb3 Tryz.underlying31 (infoRsC _ _ _ _ _ _) rfl (SpEnd.fr ?_ HR4.out rfl rfl)
 exact sp_fin (B2.setCell (Nat.le_refl _) _) k3
theorem frag_no {w0 w:World} (ty fl ln st:Int) {a:Option Addr} {n c:Nat} {b d:List Int} (hf0:0≤fl) (hf1:fl<256) (hr:RdB w0 (.slice a n c) b) (hB:Below w0.heap.size w0 w) (hb:Bs b) (hu:Pl.sUnpad ⟨ty,fl,ln,st⟩ b=some d) (h5:ty≠5) (h32:bitOf fl 32=false) :
   Calls Tryz.prog 42 #[.agg (frX (Fr.of ⟨ty,fl,ln,st⟩) (.slice none 0 0) (.slice none 0 0)),.slice a n c] w (SpEnd w0 w (Pl.sFrag ⟨ty,fl,ln,st⟩ b)):=by
 rw [sFrag_no hu h5 h32]
 have hand:=i64_and32 fl hf0 hf1
 have hB1:Below w.heap.size w ((w.alloc (.cells #[.int .i64 ty,.int .i64 fl,.int .u32 st,.int .i64 ln,.slice none 0 0,.int .u32 0,.int .u32 0,.int .u32 0,.int .u32 0,.bool false,.bool false,.int .u32 0,.int .i64 0,.slice none 0 0] 29)).alloc (.cells #[.int .i64 0,.int .u32 0,.int .u32 0,.int .i64 0,.int .i64 0,.int .u32 0,.int .i64 0,.slice none 0 0,.int .u32 0,.int .u32 0,.int .u32 0,.int .u32 0,.bool false,.bool false,.int .u32 0,.int .i64 0,.slice none 0 0] 31)):=(((Kept.refl (· < w.heap.size) w).alloc _).alloc _).below (Nat.le_refl _)
 have HR0:Hid (((w.alloc (.cells #[.int .i64 ty,.int .i64 fl,.int .u32 st,.int .i64 ln,.slice none 0 0,.int .u32 0,.int .u32 0,.int .u32 0,.int .u32 0,.bool false,.bool false,.int .u32 0,.int .i64 0,.slice none 0 0] 29)).alloc (.cells #[.int .i64 0,.int .u32 0,.int .u32 0,.int .i64 0,.int .i64 0,.int .u32 0,.int .i64 0,.slice none 0 0,.int .u32 0,.int .u32 0,.int .u32 0,.int .u32 0,.bool false,.bool false,.int .u32 0,.int .i64 0,.slice none 0 0] 31)).heap[w.heap.size+1]? = some (.cells #[.int .i64 0,.int .u32 0,.int .u32 0,.int .i64 0,.int .i64 0,.int .u32 0,.int .i64 0,.slice none 0 0,.int .u32 0,.int .u32 0,.int .u32 0,.int .u32 0,.bool false,.bool false,.int .u32 0,.int .i64 0,.slice none 0 0] 31 (0,0))):=Lib.hid (blk_at _ _ (by simp))
 have HF0:Hid (((w.alloc (.cells #[.int .i64 ty,.int .i64 fl,.int .u32 st,.int .i64 ln,.slice none 0 0,.int .u32 0,.int .u32 0,.int .u32 0,.int .u32 0,.bool false,.bool false,.int .u32 0,.int .i64 0,.slice none 0 0] 29)).alloc (.cells #[.int .i64 0,.int .u32 0,.int .u32 0,.int .i64 0,.int .i64 0,.int .u32 0,.int .i64 0,.slice none 0 0,.int .u32 0,.int .u32 0,.int .u32 0,.int .u32 0,.bool false,.bool false,.int .u32 0,.int .i64 0,.slice none 0 0] 31)).heap[w.heap.size]? = some (.cells #[.int .i64 ty,.int .i64 fl,.int .u32 st,.int .i64 ln,.slice none 0 0,.int .u32 0,.int .u32 0,.int .u32 0,.int .u32 0,.bool false,.bool false,.int .u32 0,.int .i64 0,.slice none 0 0] 29 (0,0))):=Lib.hid (blk_alloc (blk_new w _))
 have hun:Calls Tryz.prog 41 #[.agg #[.int .i64 ty,.int .i64 fl,.int .u32 st,.int .i64 ln,.slice none 0 0,.int .u32 0,.int .u32 0,.int .u32 0,.int .u32 0,.bool false,.bool false,.int .u32 0,.int .i64 0,.slice none 0 0],.slice a n c] ((w.alloc (.cells #[.int .i64 ty,.int .i64 fl,.int .u32 st,.int .i64 ln,.slice none 0 0,.int .u32 0,.int .u32 0,.int .u32 0,.int .u32 0,.bool false,.bool false,.int .u32 0,.int .i64 0,.slice none 0 0] 29)).alloc (.cells #[.int .i64 0,.int .u32 0,.int .u32 0,.int .i64 0,.int .i64 0,.int .u32 0,.int .i64 0,.slice none 0 0,.int .u32 0,.int .u32 0,.int .u32 0,.int .u32 0,.bool false,.bool false,.int .u32 0,.int .i64 0,.slice none 0 0] 31)) (UnpOk w0 ((w.alloc (.cells #[.int .i64 ty,.int .i64 fl,.int .u32 st,.int .i64 ln,.slice none 0 0,.int .u32 0,.int .u32 0,.int .u32 0,.int .u32 0,.bool false,.bool false,.int .u32 0,.int .i64 0,.slice none 0 0] 29)).alloc (.cells #[.int .i64 0,.int .u32 0,.int .u32 0,.int .i64 0,.int .i64 0,.int .u32 0,.int .i64 0,.slice none 0 0,.int .u32 0,.int .u32 0,.int .u32 0,.int .u32 0,.bool false,.bool false,.int .u32 0,.int .i64 0,.slice none 0 0] 31)) d):=unpadded_some ⟨ty,fl,ln,st⟩ (Fr.of ⟨ty,fl,ln,st⟩) _ _ rfl hf0 hf1 hr (hB.trans (hB1.mono hB.size)) hb hu
 have hbd:Bs d:=sUnpad_bs hb hu
 have h5':(ty==5)=false:=beq_false_of_ne h5
 rw [h32] at hand
 show Calls Tryz.prog 42 #[.agg #[.int .i64 ty,.int .i64 fl,.int .u32 st,.int .i64 ln,.slice none 0 0,.int .u32 0,.int .u32 0,.int .u32 0,.int .u32 0,.bool false,.bool false,.int .u32 0,.int .i64 0,.slice none 0 0],.slice a n c] w _
 clear hr hb hu
 go_enter Tryz.func42,Tryz.ntmps42
 go_wp2_with (refine wpList_load_blk rfl 29 _ rfl w.heap.size rfl #[.int .i64 ty,.int .i64 fl,.int .u32 st,.int .i64 ln,.slice none 0 0,.int .u32 0,.int .u32 0,.int .u32 0,.int .u32 0,.bool false,.bool false,.int .u32 0,.int .i64 0,.slice none 0 0] 29 HF0.out Tryz.underlying29 infoFs ?_)
 refine hun.mono ?_
 rintro e w1 ⟨da,dc,rfl,hrd,hdc,hdm,b1⟩
 have HF1:Hid (w1.heap[w.heap.size]? = some (.cells (frX (Fr.of ⟨ty,fl,ln,st⟩) (.slice none 0 0) (.slice none 0 0)) 29 (0,0))):=Lib.hid (blk_below HF0.out b1)
 have HR1:Hid (w1.heap[w.heap.size+1]? = some (.cells rsZ 31 (0,0))):=Lib.hid (blk_below HR0.out b1)
 have B1:=Below.step' hB1 b1
 clear hun b1
 unfold maxLen at hdm
 have hrd1:=hrd.below (hB.trans (B1.mono hB.size))
 have sz1:=B1.size
 have c0:w1.cell? ⟨w.heap.size,0,none⟩=some (.int .i64 ty):=blk_cell HF1.out 0
 have f0:=blk_free HF1.out 0
 have c4:w1.cell? ⟨w.heap.size,4,none⟩=some (.slice none 0 0):=blk_cell HF1.out 4
 have f4:=blk_free HF1.out 4
 obtain ⟨v4,hsl,hr4,-⟩:=slice_from hrd E5.sl E5s (n:=0) (by omega)
 obtain ⟨a4,c4,rfl,-,-,-⟩:=id hr4
 rw [List.length_drop] at hsl hr4
 have hsl':∀w,(Instr.slice 22 (.slice da d.length dc) (some (.int .i64 0)) none none).run Tryz.prog w = .ok (.slice a4 (d.length-0) c4) w:=hsl
 clear hsl
 rw [List.drop_zero] at hr4
 have HF3:Hid (∀(v:Value),(w1.setCell ⟨w.heap.size,4,none⟩ v).heap[w.heap.size]? = some (.cells (frX (Fr.of ⟨ty,fl,ln,st⟩) v (.slice none 0 0)) 29 (0,0))):=Lib.hid fun v=>by have:=blk_set HF1.out 4 v;rw [frX_data] at this;exact this
 have HR3:Hid (∀v,(w1.setCell ⟨w.heap.size,4,none⟩ v).heap[w.heap.size+1]? = some (.cells rsZ 31 (0,0))):=Lib.hid fun v=>blk_set_other HR1.out (Nat.succ_ne_self _) _
 have HR4:=Lib.hid hr4
 clear hr4 hrd
 go_wp2_with (first
   | (refine wpList_load_blk rfl 29 _ rfl w.heap.size rfl (frX (Fr.of ⟨ty,fl,ln,st⟩) (.slice a4 (d.length-0) c4) (.slice none 0 0)) 29 (HF3.out _) Tryz.underlying29 (infoFsX _ _ _) ?_)
   | (refine wpList_build_rs rfl _ rfl (frX (Fr.of ⟨ty,fl,ln,st⟩) (.slice a4 (d.length-0) c4) (.slice none 0 0)) rfl (frX_size14 _ _ _) ?_)
   | (refine wpList_store_blk rfl 31 _ _ rfl (w.heap.size+1) rfl (rsC 0 0 0 (frX (Fr.of ⟨ty,fl,ln,st⟩) (.slice a4 (d.length-0) c4) (.slice none 0 0))) rsZ rfl 31 (HR3.out _) (rsC_size _ _ _ _ _ _) (infoRsC _ _ _ _ _ _) (rsC_one _ _ _ _ _ _ _ _ _ _) ?_;intro w3 hb3 k3))
 refine ret_blk rfl (w.heap.size+1) _ _ rfl hb3 Tryz.underlying31 (infoRsC _ _ _ _ _ _) rfl (SpEnd.fr ?_ HR4.out rfl rfl)
 exact sp_fin (B1.setCell (Nat.le_refl _) _) k3
theorem fragment_any {w0 w:World} (ty fl ln st:Int) {a:Option Addr} {n c:Nat} {b:List Int} (hf0:0≤fl) (hf1:fl<256) (hr:RdB w0 (.slice a n c) b) (hB:Below w0.heap.size w0 w) (hb:Bs b) :
   Calls Tryz.prog 42 #[.agg (frX (Fr.of ⟨ty,fl,ln,st⟩) (.slice none 0 0) (.slice none 0 0)),.slice a n c] w (SpEnd w0 w (Pl.sFrag ⟨ty,fl,ln,st⟩ b)):=by
 cases hu:Pl.sUnpad ⟨ty,fl,ln,st⟩ b with
 | none =>
   by_cases h5:ty=5
   · subst h5;exact frag_none5 fl ln st hf0 hf1 hr hB hb hu
   · cases h32:bitOf fl 32 with
     | true=>exact frag_none1 ty fl ln st hf0 hf1 hr hB hb hu h5 h32
     | false=>exact frag_none0 ty fl ln st hf0 hf1 hr hB hb hu h5 h32
 | some d =>
   by_cases h5:ty=5
   · subst h5
     by_cases hl:d.length<4
     · exact frag_short5 fl ln st hf0 hf1 hr hB hb hu hl
     · exact frag_push fl ln st hf0 hf1 hr hB hb hu hl
   · cases h32:bitOf fl 32 with
     | true =>
       by_cases hl:d.length<5
       · exact frag_short1 ty fl ln st hf0 hf1 hr hB hb hu h5 h32 hl
       · exact frag_prio ty fl ln st hf0 hf1 hr hB hb hu h5 h32 hl
     | false=>exact frag_no ty fl ln st hf0 hf1 hr hB hb hu h5 h32
end Go.Proofs.YtfdlbjibninakaaGreatDoor

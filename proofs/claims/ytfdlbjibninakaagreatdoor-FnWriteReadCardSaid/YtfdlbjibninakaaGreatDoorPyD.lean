/- The reference's reading: the payload of a frame, all ways. -/
import Derived.Test.YtfdlbjibninakaaGreatDoorPyB
import Derived.Test.YtfdlbjibninakaaGreatDoorPyC
import Derived.Test.YtfdlbjibninakaaGreatDoorPyE
set_option linter.unusedVariables false
set_option linter.unusedSimpArgs false
namespace Go.Proofs.YtfdlbjibninakaaGreatDoor
set_option maxRecDepth 10000
set_option maxHeartbeats 2000000
open Go.RowKit
theorem payload_any {w0 w:World} (ty fl ln st:Int) {a:Option Addr} {n c:Nat} {b:List Int} (hty0:0≤ty) (hty1:ty<256) (hf0:0≤fl) (hf1:fl<256) (hn:n≤16777216) (hr:RdB w0 (.slice a n c) b) (hB:Below w0.heap.size w0 w) (hb:Bs b) :
   Calls Tryz.prog 23 #[.agg (frX (Fr.of ⟨ty,fl,ln,st⟩) (.slice none 0 0) (.slice none 0 0)),.slice a n c] w (SpEnd w0 w (Pl.sPayload ⟨ty,fl,ln,st⟩ b)):=by
 obtain ⟨hnb,-,-⟩:=hr.len
 unfold Pl.sPayload
 simp only
 by_cases h4:ty=4
 · rw [if_pos h4];subst h4;exact pay4 fl st ln hf0 hf1 hr hB hb hn
 rw [if_neg h4]
 by_cases h2:ty=2
 · rw [if_pos h2];subst h2
   unfold Pl.sPrio
   by_cases h5:n=5
   · rw [if_neg (by omega)]
     by_cases hs:st=0
     · subst hs;rw [if_pos rfl];exact pay2_zero fl ln hf0 hf1 hr hB hb h5
     · rw [if_neg hs];exact pay2_ok fl st ln hf0 hf1 hr hB hb hs h5
   · rw [if_pos (by omega)]
     by_cases hs:st=0
     · subst hs;exact pay2_any0 fl ln hf0 hf1 hr hB hb h5
     · exact pay2_any1 fl st ln hf0 hf1 hr hB hb hs h5
 rw [if_neg h2]
 by_cases h3:ty=3
 · rw [if_pos h3];subst h3
   unfold Pl.sRst
   simp only
   by_cases hs:st=0
   · subst hs
     by_cases h:n=4
     · rw [if_pos (by simp),show decide (b.length≠4)=false from decide_eq_false (by omega)];exact pay3_tf fl ln hf0 hf1 hr hB hb h
     · rw [if_pos (by simp),show decide (b.length≠4)=true from decide_eq_true (by omega)];exact pay3_tt fl ln hf0 hf1 hr hB hb h
   · rw [show decide (st=0)=false from decide_eq_false hs]
     by_cases h:n=4
     · rw [show decide (b.length≠4)=false from decide_eq_false (by omega),if_neg (by simp)];exact pay3_ok fl st ln hf0 hf1 hr hB hb hs h
     · rw [show decide (b.length≠4)=true from decide_eq_true (by omega),if_pos (by simp)];exact pay3_ft fl st ln hf0 hf1 hr hB hb hs h
 rw [if_neg h3]
 by_cases h6:ty=6
 · rw [if_pos h6];subst h6
   unfold Pl.sPing
   simp only
   by_cases hs:st=0
   · subst hs
     rw [show decide ((0:Int)≠0)=false from decide_eq_false (by simp)]
     by_cases h:n=8
     · rw [show decide (b.length≠8)=false from decide_eq_false (by omega),if_neg (by simp)];exact pay6_ok fl ln hf0 hf1 hr hB hb h
     · rw [show decide (b.length≠8)=true from decide_eq_true (by omega),if_pos (by simp)];exact pay6_ft fl ln hf0 hf1 hr hB hb h
   · rw [show decide (st≠0)=true from decide_eq_true hs]
     by_cases h:n=8
     · rw [show decide (b.length≠8)=false from decide_eq_false (by omega),if_pos (by simp)];exact pay6_tf fl st ln hf0 hf1 hr hB hb hs h
     · rw [show decide (b.length≠8)=true from decide_eq_true (by omega),if_pos (by simp)];exact pay6_tt fl st ln hf0 hf1 hr hB hb hs h
 rw [if_neg h6]
 by_cases h8:ty=8
 · rw [if_pos h8];subst h8
   unfold Pl.sWin Pl.sWindow
   by_cases h:n=4
   · rw [if_neg (by omega)]
     by_cases hz:n31 b 0=0
     · rw [if_pos hz]
       by_cases hs:st=0
       · subst hs;rw [if_pos rfl];exact pay8_zero0 fl ln hf0 hf1 hr hB hb h hz
       · rw [if_neg hs];exact pay8_zero1 fl st ln hf0 hf1 hr hB hb hs h hz
     · rw [if_neg hz];exact pay8_ok fl st ln hf0 hf1 hr hB hb h hz
   · rw [if_pos (by omega)];exact pay8_ft fl st ln hf0 hf1 hr hB hb h
 rw [if_neg h8]
 by_cases h0:ty=0
 · rw [if_pos h0];subst h0
   unfold Pl.sDat
   simp only
   by_cases hs:st=0
   · subst hs;rw [if_pos rfl];exact pay0_zero fl ln hf0 hf1 hr hB hb
   · rw [if_neg hs]
     unfold Pl.sData
     cases hu:Pl.sUnpad ⟨0,fl,ln,st⟩ b with
     | none =>
       simp only
       by_cases h:n=0
       · rw [if_pos (by omega)];exact pay0_none0 fl st ln hf0 hf1 hr hB hb hs hu h
       · rw [if_neg (by omega)];exact pay0_none1 fl st ln hf0 hf1 hr hB hb hs hu h
     | some d=>exact pay0_ok fl st ln hf0 hf1 hr hB hb hs hu
 rw [if_neg h0]
 by_cases h15:ty=1∨ty=5
 · rw [if_pos h15]
   unfold Pl.sHead
   simp only
   rcases h15 with h|h
   · subst h
     by_cases hs:st=0
     · subst hs;rw [if_pos rfl];exact pay1_zero fl ln hf0 hf1 hr hB hb
     · rw [if_neg hs];exact pay1_frag fl st ln hf0 hf1 hr hB hb hs
   · subst h
     by_cases hs:st=0
     · subst hs;rw [if_pos rfl];exact pay5_zero fl ln hf0 hf1 hr hB hb
     · rw [if_neg hs];exact pay5_frag fl st ln hf0 hf1 hr hB hb hs
 rw [if_neg h15]
 by_cases h9:ty=9
 · rw [if_pos h9];subst h9
   unfold Pl.sCont
   simp only
   by_cases hs:st=0
   · subst hs;rw [if_pos rfl];exact pay9_zero fl ln hf0 hf1 hr hB hb
   · rw [if_neg hs];exact pay9_ok fl st ln hf0 hf1 hr hB hb hs
 rw [if_neg h9]
 by_cases h7:ty=7
 · rw [if_pos h7];subst h7
   unfold Pl.sGo
   simp only
   by_cases hs:st=0
   · subst hs
     rw [show decide ((0:Int)≠0)=false from decide_eq_false (by simp)]
     by_cases h:n<8
     · rw [show decide (b.length<8)=true from decide_eq_true (by omega),if_pos (by simp)];exact pay7_ft fl ln hf0 hf1 hr hB hb h
     · rw [show decide (b.length<8)=false from decide_eq_false (by omega),if_neg (by simp)];exact pay7_ok fl ln hf0 hf1 hr hB hb h
   · rw [show decide (st≠0)=true from decide_eq_true hs]
     by_cases h:n<8
     · rw [show decide (b.length<8)=true from decide_eq_true (by omega),if_pos (by simp)];exact pay7_tt fl st ln hf0 hf1 hr hB hb hs h
     · rw [show decide (b.length<8)=false from decide_eq_false (by omega),if_pos (by simp)];exact pay7_tf fl st ln hf0 hf1 hr hB hb hs h
 rw [if_neg h7]
 by_cases h16:ty=16
 · rw [if_pos h16];subst h16
   unfold Pl.sUpd
   simp only
   by_cases hs:st=0
   · subst hs
     rw [show decide ((0:Int)≠0)=false from decide_eq_false (by simp)]
     by_cases h:n<4
     · rw [show decide (b.length<4)=true from decide_eq_true (by omega),if_pos (by simp)];exact pay16_ft fl ln hf0 hf1 hr hB hb h
     · rw [show decide (b.length<4)=false from decide_eq_false (by omega),if_neg (by simp)]
       by_cases hz:n31 b 0=0
       · rw [if_pos hz];exact pay16_zero fl ln hf0 hf1 hr hB hb h hz
       · rw [if_neg hz];exact pay16_ok fl ln hf0 hf1 hr hB hb h hz
   · rw [show decide (st≠0)=true from decide_eq_true hs]
     by_cases h:n<4
     · rw [show decide (b.length<4)=true from decide_eq_true (by omega),if_pos (by simp)];exact pay16_tt fl st ln hf0 hf1 hr hB hb hs h
     · rw [show decide (b.length<4)=false from decide_eq_false (by omega),if_pos (by simp)];exact pay16_tf fl st ln hf0 hf1 hr hB hb hs h
 rw [if_neg h16]
 exact pay_other ty fl st ln hf0 hf1 hr hB hb ⟨h4,h2,h3,h6,h8,h0,fun h=>h15 (.inl h),fun h=>h15 (.inr h),h9,h7,h16⟩ hty0 hty1
end Go.Proofs.YtfdlbjibninakaaGreatDoor

/- Reading: the parsers of frames, each against the plain model (5: PING). -/
import Derived.Test.YtfdlbjibninakaaGreatDoorPs
set_option linter.unusedVariables false
set_option linter.unusedSimpArgs false
namespace Go.Proofs.YtfdlbjibninakaaGreatDoor
set_option maxRecDepth 10000
set_option maxHeartbeats 4000000
open Go.RowKit
theorem run_to {T e:Nat} {a:Option Addr} {n c m:Nat} (hT:Tryz.prog.underlying T=some (.slice e)) (he:(Tryz.prog.info? e).map (·.size)=some 1) (hm:m≤c) (w:World) :
   (Instr.slice T (.slice a n c) none (some (.int .i64 (m:Int))) none).run Tryz.prog w = .ok (.slice a m c) w:=by
 obtain ⟨i,hi,hs⟩:=Option.map_eq_some_iff.1 he
 have hz:∀x:Addr,x.add 0=x:=fun x=>by cases x;unfold Addr.add;split<;>simp_all
 simp [Instr.slice,run_underlying hT,Instr.sliceBounds,Instr.sliceBound,asIntOf,sizeOf,typeInfo,hi,hm]
 intro hc
 cases a<;>simp [hz]
theorem n32_take (b:List Int) (m:Nat) (hm:4≤m):n32 (b.take m) 0=n32 b 0:=by
 unfold n32 gb
 simp only [List.getD_eq_getElem?_getD]
 rw [List.getElem?_take_of_lt (by omega),List.getElem?_take_of_lt (by omega),List.getElem?_take_of_lt (by omega),List.getElem?_take_of_lt (by omega)]
theorem n32_drop (b:List Int) (m:Nat):n32 (b.drop m) 0=n32 b m:=by
 unfold n32 gb
 simp only [List.getD_eq_getElem?_getD,List.getElem?_drop,Nat.add_zero,Nat.zero_add]
theorem uint32_first {b:List Int} {a:Option Addr} {c:Nat} (hb:Bs b) (hl:4≤b.length) (w:World) (h:RdB w (.slice a 4 c) (b.take 4)) :
   Calls Tryz.prog 107 #[.agg #[],.slice a 4 c] w fun e w'=>e = .returned (.int .u32 (n32 b 0)) ∧ ∃n,(w.alloc (.cells #[] 231)).drewN n=w':=by
 have:=uint32_any h (hb.take 4) (by rw [List.length_take];omega)
 rwa [n32_take b 4 (Nat.le_refl _)] at this
theorem n32_bounds {b:List Int} (hb:Bs b) (j:Nat):0≤n32 b j∧n32 b j<4294967296:=by
 have h0:=hb.at j
 have h1:=hb.at (j+1)
 have h2:=hb.at (j+2)
 have h3:=hb.at (j+3)
 unfold n32
 omega
theorem parseUnknown_any {B:Nat} {aE aU aT:Addr} {w:World} (_hV:GV B w aE aU aT) (ty fl ln st:Int) (_hf0:0≤fl) (_hf1:fl<256) (a:Option Addr) (n c:Nat) (b:List Int) (h:RdB w (.slice a n c) b) (_hb:Bs b) :
   Calls Tryz.prog 120 #[.pointer none,hdV ty fl ln st,cntV,.slice a n c] w (Parsed aU w (parseUnknown ⟨ty,fl,ln,st⟩ b)):=by
 go_enter Tryz.func120,Tryz.ntmps120
 go_wp2
 go_ret2
 exact Parsed.ok (FrV.unknown ⟨ty,fl,ln,st⟩ b (w.heap.size+1) _ (by omega) (blk_at _ _ (by simp)) (h.below ((((K0 w).alloc _).alloc _).below (Nat.le_refl _)))) rfl ((((K0 w).alloc _).alloc _).below (Nat.le_refl _))
theorem parseCont_any {B:Nat} {aE aU aT:Addr} {w:World} (_hV:GV B w aE aU aT) (ty fl ln st:Int) (_hf0:0≤fl) (_hf1:fl<256) (a:Option Addr) (n c:Nat) (b:List Int) (h:RdB w (.slice a n c) b) (_hb:Bs b) :
   Calls Tryz.prog 118 #[.pointer none,hdV ty fl ln st,cntV,.slice a n c] w (Parsed aU w (parseCont ⟨ty,fl,ln,st⟩ b)):=by
 by_cases hst:st=0
 · subst hst
   go_enter Tryz.func118,Tryz.ntmps118
   go_wp2_with (go_at_call 44;refine (count_any _ _).mono ?_;rintro e w' ⟨rfl,rfl⟩)
   go_ret2
   exact Parsed.connR rfl (((K0 w).alloc _).below (Nat.le_refl _))
 have hs:(st==0)=false:=beq_false_of_ne hst
 have hst:=Lib.hid hst
 go_enter Tryz.func118,Tryz.ntmps118
 go_wp2_with (go_at_call 44;refine (count_any _ _).mono ?_;rintro e w' ⟨rfl,rfl⟩)
 go_ret2
 exact Parsed.ok (FrV.cont ⟨ty,fl,ln,st⟩ b (w.heap.size+1) _ (by omega) (blk_at _ _ (by simp)) (h.below ((((K0 w).alloc _).alloc _).below (Nat.le_refl _)))) (by unfold parseCont;rw [if_neg hst.out]) ((((K0 w).alloc _).alloc _).below (Nat.le_refl _))
theorem parseRst_any {B:Nat} {aE aU aT:Addr} {w:World} (_hV:GV B w aE aU aT) (ty fl ln st:Int) (_hf0:0≤fl) (_hf1:fl<256) (a:Option Addr) (n c:Nat) (b:List Int) (h:RdB w (.slice a n c) b) (hb:Bs b) :
   Calls Tryz.prog 112 #[.pointer none,hdV ty fl ln st,cntV,.slice a n c] w (Parsed aU w (parseRst ⟨ty,fl,ln,st⟩ b)):=by
 obtain ⟨hnb,hnc,hcm⟩:=h.len
 rw [←hnb] at hnc
 have HB:=Lib.hid hnb
 clear hnb
 by_cases h4:n=4
 · subst h4
   by_cases hst:st=0
   · subst hst
     go_enter Tryz.func112,Tryz.ntmps112
     go_wp2_with (go_at_call 44;refine (count_any _ _).mono ?_;rintro e w' ⟨rfl,rfl⟩)
     go_ret2
     exact Parsed.conn (by unfold parseRst;rw [if_neg (by have:=HB.out;omega)];rfl) (((K0 w).alloc _).below (Nat.le_refl _))
   have hs:(st==0)=false:=beq_false_of_ne hst
   have hst:=Lib.hid hst
   have h4:RdB w (.slice a 4 c) (b.take 4):=RdI.take h (Nat.le_refl _)
   have hs4:∀w,(Instr.slice 22 (.slice a 4 c) none (some (.int .i64 4)) none).run Tryz.prog w = .ok (.slice a 4 c) w:=fun w=>run_to (m:=4) E5.sl E5s hnc w
   have hu:=uint32_first (a:=a) (c:=c) hb (by have:=HB.out;omega) (w.alloc (.cells #[.bool true,.int .u8 ty,.int .u8 fl,.int .u32 ln,.int .u32 st] 113)).drew (show RdB (w.alloc (.cells #[.bool true,.int .u8 ty,.int .u8 fl,.int .u32 ln,.int .u32 st] 113)) _ _ from h4.below (((K0 w).alloc _).below (Nat.le_refl _)))
   go_enter Tryz.func112,Tryz.ntmps112
   go_wp2_with (go_at_call 44;refine (count_any _ _).mono ?_;rintro e w' ⟨rfl,rfl⟩)
   go_region_held3 (fun w'=>w'.cell? ⟨w.heap.size,0,none⟩=some (.bool true)∧w'.cell? ⟨w.heap.size,1,none⟩=some (.int .u8 ty)∧w'.cell? ⟨w.heap.size,2,none⟩=some (.int .u8 fl)∧w'.cell? ⟨w.heap.size,3,none⟩=some (.int .u32 ln)∧w'.cell? ⟨w.heap.size,4,none⟩=some (.int .u32 st)) (go_keep) ((go_at_call 107;refine hu.mono ?_;rintro e w' ⟨rfl,nq,rfl⟩))
   all_goals
     go_wp2
     go_ret2
     refine Parsed.ok (FrV.rst ⟨ty,fl,ln,st⟩ (w.heap.size+1+1) _ (by omega) (blk_at _ _ (by simp))) ?_ ?_
     · unfold parseRst
       rw [if_neg (by have:=HB.out;omega),if_neg hst.out]
     · exact (((((K0 w).alloc _).alloc _).alloc _).drawn _).below (Nat.le_refl _)
 have h4i:((n:Int) != 4)=true:=by simp;omega
 have h4:=Lib.hid h4
 go_enter Tryz.func112,Tryz.ntmps112
 go_wp2_with (go_at_call 44;refine (count_any _ _).mono ?_;rintro e w' ⟨rfl,rfl⟩)
 go_ret2
 exact Parsed.conn (by unfold parseRst;rw [if_pos (by have:=HB.out;have:=h4.out;omega)]) (((K0 w).alloc _).below (Nat.le_refl _))
theorem parseWindow_any {B:Nat} {aE aU aT:Addr} {w:World} (_hV:GV B w aE aU aT) (ty fl ln st:Int) (_hf0:0≤fl) (_hf1:fl<256) (a:Option Addr) (n c:Nat) (b:List Int) (h:RdB w (.slice a n c) b) (hb:Bs b) :
   Calls Tryz.prog 117 #[.pointer none,hdV ty fl ln st,cntV,.slice a n c] w (Parsed aU w (parseWindow ⟨ty,fl,ln,st⟩ b)):=by
 obtain ⟨hnb,hnc,hcm⟩:=h.len
 rw [←hnb] at hnc
 have HB:=Lib.hid hnb
 clear hnb
 by_cases h4:n=4
 · subst h4
   have h4:RdB w (.slice a 4 c) (b.take 4):=RdI.take h (Nat.le_refl _)
   have hs4:∀w,(Instr.slice 22 (.slice a 4 c) none (some (.int .i64 4)) none).run Tryz.prog w = .ok (.slice a 4 c) w:=fun w=>run_to (m:=4) E5.sl E5s hnc w
   have hu:=uint32_first (a:=a) (c:=c) hb (by have:=HB.out;omega) (w.alloc (.cells #[.bool true,.int .u8 ty,.int .u8 fl,.int .u32 ln,.int .u32 st] 113)).drew (show RdB (w.alloc (.cells #[.bool true,.int .u8 ty,.int .u8 fl,.int .u32 ln,.int .u32 st] 113)) _ _ from h4.below (((K0 w).alloc _).below (Nat.le_refl _)))
   have hbd:=n32_bounds hb 0
   have hmod:∃x,n32 b 0=x:=⟨_,rfl⟩
   obtain ⟨x,hx⟩:=hmod
   rw [hx] at hu hbd
   have HX:=Lib.hid hx
   clear hx
   have hand:=u32_low x hbd.1 hbd.2
   obtain ⟨y,hy⟩:∃y,x%2147483648=y:=⟨_,rfl⟩
   rw [hy] at hand
   have HY:=Lib.hid hy
   clear hy
   have hinc:n31 b 0=y:=by unfold n31;rw [HX.out,HY.out]
   have HI:=Lib.hid hinc
   clear hinc
   by_cases hz:y=0
   · subst hz
     by_cases hst:st=0
     · subst hst
       go_enter Tryz.func117,Tryz.ntmps117
       go_wp2_with (go_at_call 44;refine (count_any _ _).mono ?_;rintro e w' ⟨rfl,rfl⟩)
       go_region_with (go_at_call 107;refine hu.mono ?_;rintro e w' ⟨rfl,nq,rfl⟩)
       all_goals
         go_wp2_with (go_at_call 44;refine (count_any _ _).mono ?_;rintro e w' ⟨rfl,rfl⟩)
         go_ret2
         refine Parsed.conn ?_ (((((K0 w).alloc _).alloc _).drawn _).below (Nat.le_refl _))
         unfold parseWindow
         rw [if_neg (by have:=HB.out;omega),HI.out]
         rfl
     have hs:(st==0)=false:=beq_false_of_ne hst
     have hst:=Lib.hid hst
     go_enter Tryz.func117,Tryz.ntmps117
     go_wp2_with (go_at_call 44;refine (count_any _ _).mono ?_;rintro e w' ⟨rfl,rfl⟩)
     go_region_with (go_at_call 107;refine hu.mono ?_;rintro e w' ⟨rfl,nq,rfl⟩)
     all_goals
       go_wp2_with (first|(go_at_call 44;refine (count_any _ _).mono ?_;rintro e w' ⟨rfl,rfl⟩)|(go_at_call 127;refine (streamError_any _ _ _).mono ?_;rintro e w' ⟨rfl,rfl⟩))
       go_ret2
       refine Parsed.stream ?_ ((((((K0 w).alloc _).alloc _).alloc _).drawn _).below (Nat.le_refl _))
       unfold parseWindow
       rw [if_neg (by have:=HB.out;omega),HI.out,if_pos rfl,if_neg hst.out]
   have hzb:(y==0)=false:=beq_false_of_ne hz
   have hz:=Lib.hid hz
   go_enter Tryz.func117,Tryz.ntmps117
   go_wp2_with (go_at_call 44;refine (count_any _ _).mono ?_;rintro e w' ⟨rfl,rfl⟩)
   go_region_with (go_at_call 107;refine hu.mono ?_;rintro e w' ⟨rfl,nq,rfl⟩)
   all_goals
     go_wp2
     go_ret2
     refine Parsed.ok (FrV.window ⟨ty,fl,ln,st⟩ (w.heap.size+1+1) _ (by omega) (blk_at _ _ (by simp))) ?_ ?_
     · unfold parseWindow
       rw [if_neg (by have:=HB.out;omega),HI.out,if_neg hz.out]
     · exact (((((K0 w).alloc _).alloc _).alloc _).drawn _).below (Nat.le_refl _)
 have h4i:((n:Int) != 4)=true:=by simp;omega
 have h4:=Lib.hid h4
 go_enter Tryz.func117,Tryz.ntmps117
 go_wp2_with (go_at_call 44;refine (count_any _ _).mono ?_;rintro e w' ⟨rfl,rfl⟩)
 go_ret2
 exact Parsed.conn (by unfold parseWindow;rw [if_pos (by have:=HB.out;have:=h4.out;omega)]) (((K0 w).alloc _).below (Nat.le_refl _))
end Go.Proofs.YtfdlbjibninakaaGreatDoor

namespace Go.Proofs.YtfdlbjibninakaaGreatDoor
set_option maxRecDepth 10000
set_option maxHeartbeats 4000000
open Go.RowKit
theorem n32_mid (b:List Int):n32 ((b.take 8).drop 4) 0=n32 b 4:=by
 rw [n32_drop]
 unfold n32 gb
 simp only [List.getD_eq_getElem?_getD]
 rw [List.getElem?_take_of_lt (by omega),List.getElem?_take_of_lt (by omega),List.getElem?_take_of_lt (by omega),List.getElem?_take_of_lt (by omega)]
theorem parseGoAway_any {B:Nat} {aE aU aT:Addr} {w:World} (_hV:GV B w aE aU aT) (ty fl ln st:Int) (_hf0:0≤fl) (_hf1:fl<256) (a:Option Addr) (n c:Nat) (b:List Int) (h:RdB w (.slice a n c) b) (hb:Bs b) :
   Calls Tryz.prog 116 #[.pointer none,hdV ty fl ln st,cntV,.slice a n c] w (Parsed aU w (parseGoAway ⟨ty,fl,ln,st⟩ b)):=by
 obtain ⟨hnb,hnc,hcm⟩:=h.len
 rw [←hnb] at hnc
 have HB:=Lib.hid hnb
 clear hnb
 by_cases hst:st=0
 · subst hst
   by_cases h8:n<8
   · have h8i:(n:Int)<8:=by omega
     have h8:=Lib.hid h8
     go_enter Tryz.func116,Tryz.ntmps116
     go_wp2_with (go_at_call 44;refine (count_any _ _).mono ?_;rintro e w' ⟨rfl,rfl⟩)
     go_ret2
     exact Parsed.conn (by unfold parseGoAway;rw [if_neg (by simp),if_pos (by have:=HB.out;have:=h8.out;omega)]) (((K0 w).alloc _).below (Nat.le_refl _))
   have h8i:¬(n:Int)<8:=by omega
   have hlen:=HB.out
   have hm:=slice_mid (n:=4) (m:=8) h E5.sl E5s (by omega) (by omega)
   obtain ⟨a2,c2,hs2,hr2,-⟩:=hm
   have hsB:∀w,(Instr.slice 22 (.slice a n c) (some (.int .i64 4)) (some (.int .i64 8)) none).run Tryz.prog w = .ok (.slice a2 4 c2) w:=hs2
   clear hs2
   have hsA:∀w,(Instr.slice 22 (.slice a n c) none (some (.int .i64 4)) none).run Tryz.prog w = .ok (.slice a 4 c) w:=fun w=>run_to (m:=4) E5.sl E5s (by omega) w
   have hsC:∀w,(Instr.slice 22 (.slice a n c) (some (.int .i64 8)) none none).run Tryz.prog w = .ok (.slice (dropA 8 c a) (n-8) (c-8)) w:=fun w=>run_dropA (n:=8) E5.sl E5s (by omega) w
   have hrC:=h.dropA (n:=8) (by omega)
   have h4:RdB w (.slice a 4 c) (b.take 4):=RdI.take h (by omega)
   have uA:=fun w h=>uint32_first (a:=a) (c:=c) hb (by omega) w h
   have uB:∀w,RdB w (.slice a2 4 c2) ((b.take 8).drop 4)→Calls Tryz.prog 107 #[.agg #[],.slice a2 4 c2] w fun e w'=>e = .returned (.int .u32 (n32 b 4)) ∧ ∃n,(w.alloc (.cells #[] 231)).drewN n=w':=fun w h=>by
     have:=uint32_any h ((hb.take 8).drop 4) (by rw [List.length_drop,List.length_take];omega)
     rwa [n32_mid] at this
   have hbd:=n32_bounds hb 0
   have hand:=u32_low (n32 b 0) hbd.1 hbd.2
   have e31:n32 b 0%2147483648=n31 b 0:=rfl
   rw [e31] at hand
   clear e31 hbd hlen
   have bH:Below w.heap.size w (w.alloc (.cells #[.bool true,.int .u8 ty,.int .u8 fl,.int .u32 ln,.int .u32 0] 113)):=(((K0 w).alloc _).below (Nat.le_refl _))
   have bE:Below w.heap.size w ((w.alloc (.cells #[.bool true,.int .u8 ty,.int .u8 fl,.int .u32 ln,.int .u32 0] 113)).alloc (.cells #[] 231)):=((((K0 w).alloc _).alloc _).below (Nat.le_refl _))
   have uA1:=uA (w.alloc (.cells #[.bool true,.int .u8 ty,.int .u8 fl,.int .u32 ln,.int .u32 0] 113)).drew (show RdB (w.alloc (.cells #[.bool true,.int .u8 ty,.int .u8 fl,.int .u32 ln,.int .u32 0] 113)) _ _ from h4.below bH)
   have uB1:=uB (w.alloc (.cells #[.bool true,.int .u8 ty,.int .u8 fl,.int .u32 ln,.int .u32 0] 113)).drew (show RdB (w.alloc (.cells #[.bool true,.int .u8 ty,.int .u8 fl,.int .u32 ln,.int .u32 0] 113)) _ _ from hr2.below bH)
   have uA2:=fun k=>uA (((w.alloc (.cells #[.bool true,.int .u8 ty,.int .u8 fl,.int .u32 ln,.int .u32 0] 113)).alloc (.cells #[] 231)).drewN k) (show RdB ((w.alloc (.cells #[.bool true,.int .u8 ty,.int .u8 fl,.int .u32 ln,.int .u32 0] 113)).alloc (.cells #[] 231)) _ _ from h4.below bE)
   have uB2:=fun k=>uB (((w.alloc (.cells #[.bool true,.int .u8 ty,.int .u8 fl,.int .u32 ln,.int .u32 0] 113)).alloc (.cells #[] 231)).drewN k) (show RdB ((w.alloc (.cells #[.bool true,.int .u8 ty,.int .u8 fl,.int .u32 ln,.int .u32 0] 113)).alloc (.cells #[] 231)) _ _ from hr2.below bE)
   clear uA uB
   generalize dropA 8 c a=a3 at *
   obtain ⟨y0,hy0⟩:∃y0,n31 b 0=y0:=⟨_,rfl⟩
   rw [hy0] at hand
   have HY:=Lib.hid hy0
   clear hy0
   go_enter Tryz.func116,Tryz.ntmps116
   go_wp2_with (go_at_call 44;refine (count_any _ _).mono ?_;rintro e w' ⟨rfl,rfl⟩)
   go_region_held3 (fun w'=>w'.cell? ⟨w.heap.size,0,none⟩=some (.bool true)∧w'.cell? ⟨w.heap.size,1,none⟩=some (.int .u8 ty)∧w'.cell? ⟨w.heap.size,2,none⟩=some (.int .u8 fl)∧w'.cell? ⟨w.heap.size,3,none⟩=some (.int .u32 ln)∧w'.cell? ⟨w.heap.size,4,none⟩=some (.int .u32 0)) (go_keep) ((first|(go_at_call 107;(with_reducible refine uA1.mono ?_);rintro e w' ⟨rfl,nq,rfl⟩)|(go_at_call 107;(with_reducible refine uB1.mono ?_);rintro e w' ⟨rfl,nq,rfl⟩)|(go_at_call 107;(with_reducible refine (uA2 _).mono ?_);rintro e w' ⟨rfl,nr,rfl⟩)|(go_at_call 107;(with_reducible refine (uB2 _).mono ?_);rintro e w' ⟨rfl,nr,rfl⟩)))
   all_goals
     go_wp2
     go_ret2
     refine Parsed.ok (FrV.goaway ⟨ty,fl,ln,0⟩ (b.drop 8) (w.heap.size+1+1+1) _ y0 (n32 b 4) (by omega) (blk_at _ _ (by simp)) (hrC.below ?_)) ?_ ?_
     · exact Kept.below (by repeat (first|exact K0 w|refine Kept.alloc ?_ _|refine Kept.drawn ?_ _)) (Nat.le_refl _)
     · unfold parseGoAway
       rw [if_neg (by simp),if_neg (by have:=HB.out;omega),HY.out]
     · exact Kept.below (by repeat (first|exact K0 w|refine Kept.alloc ?_ _|refine Kept.drawn ?_ _)) (Nat.le_refl _)
 have hs:(st != 0)=true:=by simp;exact hst
 have hst:=Lib.hid hst
 go_enter Tryz.func116,Tryz.ntmps116
 go_wp2_with (go_at_call 44;refine (count_any _ _).mono ?_;rintro e w' ⟨rfl,rfl⟩)
 go_ret2
 exact Parsed.conn (by unfold parseGoAway;rw [if_pos hst.out]) (((K0 w).alloc _).below (Nat.le_refl _))
end Go.Proofs.YtfdlbjibninakaaGreatDoor

namespace Go.Proofs.YtfdlbjibninakaaGreatDoor
set_option maxRecDepth 10000
set_option maxHeartbeats 4000000
open Go.RowKit
theorem parsePriority_any {B:Nat} {aE aU aT:Addr} {w:World} (_hV:GV B w aE aU aT) (ty fl ln st:Int) (_hf0:0≤fl) (_hf1:fl<256) (a:Option Addr) (n c:Nat) (b:List Int) (h:RdB w (.slice a n c) b) (hb:Bs b) :
   Calls Tryz.prog 111 #[.pointer none,hdV ty fl ln st,cntV,.slice a n c] w (Parsed aU w (parsePriority ⟨ty,fl,ln,st⟩ b)):=by
 obtain ⟨hnb,hnc,hcm⟩:=h.len
 rw [←hnb] at hnc
 have HB:=Lib.hid hnb
 clear hnb
 by_cases hst:st=0
 · subst hst
   go_enter Tryz.func111,Tryz.ntmps111
   go_wp2_with (go_at_call 44;refine (count_any _ _).mono ?_;rintro e w' ⟨rfl,rfl⟩)
   go_ret2
   exact Parsed.connR rfl (((K0 w).alloc _).below (Nat.le_refl _))
 have hs:(st==0)=false:=beq_false_of_ne hst
 have hst:=Lib.hid hst
 by_cases h5:n=5
 · subst h5
   have h4:RdB w (.slice a 4 c) (b.take 4):=RdI.take h (by omega)
   have hs4:∀w,(Instr.slice 22 (.slice a 5 c) none (some (.int .i64 4)) none).run Tryz.prog w = .ok (.slice a 4 c) w:=fun w=>run_to (m:=4) E5.sl E5s (by omega) w
   have hu:=uint32_first (a:=a) (c:=c) hb (by have:=HB.out;omega) (w.alloc (.cells #[.bool true,.int .u8 ty,.int .u8 fl,.int .u32 ln,.int .u32 st] 113)).drew (show RdB (w.alloc (.cells #[.bool true,.int .u8 ty,.int .u8 fl,.int .u32 ln,.int .u32 st] 113)) _ _ from h4.below (((K0 w).alloc _).below (Nat.le_refl _)))
   have hbd:=n32_bounds hb 0
   obtain ⟨x,hx⟩:∃x,n32 b 0=x:=⟨_,rfl⟩
   rw [hx] at hu hbd
   have HX:=Lib.hid hx
   clear hx
   have hand:=u32_low x hbd.1 hbd.2
   obtain ⟨y,hy⟩:∃y,x%2147483648=y:=⟨_,rfl⟩
   rw [hy] at hand
   have hne:(y != x)=decide (2147483648≤x):=by
     rw [Bool.eq_iff_iff]
     simp only [bne_iff_ne,ne_eq,decide_eq_true_eq]
     omega
   have HY:=Lib.hid hy
   clear hy
   have hinc:n31 b 0=y:=by unfold n31;rw [HX.out,HY.out]
   have HI:=Lib.hid hinc
   clear hinc
   obtain ⟨ab,ao,rfl,c4⟩:=cell0 h (j:=4) (by omega)
   have k4:=cell_alloc (cell_alloc c4 (.cells #[.bool true,.int .u8 ty,.int .u8 fl,.int .u32 ln,.int .u32 st] 113)) (.cells #[] 231)
   clear c4
   obtain ⟨wt,hw⟩:∃wt,gb b 4=wt:=⟨_,rfl⟩
   rw [hw] at k4
   have HW:=Lib.hid hw
   clear hw
   go_enter Tryz.func111,Tryz.ntmps111
   go_wp2_with (go_at_call 44;refine (count_any _ _).mono ?_;rintro e w' ⟨rfl,rfl⟩)
   go_region_with (go_at_call 107;refine hu.mono ?_;rintro e w' ⟨rfl,nq,rfl⟩)
   all_goals
     go_wp2
     go_region_with (fail)
     all_goals
       go_wp2
       go_ret2
       refine Parsed.ok (FrV.priority ⟨ty,fl,ln,st⟩ (w.heap.size+1+1) y wt (decide (2147483648≤x)) (by omega) (blk_at _ _ (by simp))) ?_ ?_
       · unfold parsePriority
         rw [if_neg hst.out,if_neg (by have:=HB.out;omega),HI.out,HX.out,HW.out]
       · exact Kept.below (by repeat (first|exact K0 w|refine Kept.alloc ?_ _|refine Kept.drawn ?_ _)) (Nat.le_refl _)
 have h5i:((n:Int) != 5)=true:=by simp;omega
 have h5:=Lib.hid h5
 go_enter Tryz.func111,Tryz.ntmps111
 go_wp2_with (go_at_call 44;refine (count_any _ _).mono ?_;rintro e w' ⟨rfl,rfl⟩)
 go_ret2
 exact Parsed.connR (by unfold parsePriority;rw [if_neg hst.out,if_pos (by have:=HB.out;have:=h5.out;omega)]) (((K0 w).alloc _).below (Nat.le_refl _))
theorem parseUpdate_any {B:Nat} {aE aU aT:Addr} {w:World} (_hV:GV B w aE aU aT) (ty fl ln st:Int) (_hf0:0≤fl) (_hf1:fl<256) (a:Option Addr) (n c:Nat) (b:List Int) (h:RdB w (.slice a n c) b) (hb:Bs b) :
   Calls Tryz.prog 119 #[.pointer none,hdV ty fl ln st,cntV,.slice a n c] w (Parsed aU w (parseUpdate ⟨ty,fl,ln,st⟩ b)):=by
 obtain ⟨hnb,hnc,hcm⟩:=h.len
 rw [←hnb] at hnc
 have HB:=Lib.hid hnb
 clear hnb
 by_cases hst:st=0
 · subst hst
   by_cases h4:n<4
   · have h4i:(n:Int)<4:=by omega
     have h4:=Lib.hid h4
     go_enter Tryz.func119,Tryz.ntmps119
     go_wp2_with (go_at_call 44;refine (count_any _ _).mono ?_;rintro e w' ⟨rfl,rfl⟩)
     go_ret2
     exact Parsed.connR (by unfold parseUpdate;rw [if_neg (by simp),if_pos (by have:=HB.out;have:=h4.out;omega)]) (((K0 w).alloc _).below (Nat.le_refl _))
   have h4i:¬(n:Int)<4:=by omega
   have hge:4≤n:=by omega
   have h4:RdB w (.slice a 4 c) (b.take 4):=RdI.take h hge
   have hs4:∀w,(Instr.slice 22 (.slice a n c) none (some (.int .i64 4)) none).run Tryz.prog w = .ok (.slice a 4 c) w:=fun w=>run_to (m:=4) E5.sl E5s (by omega) w
   have hs5:∀w,(Instr.slice 22 (.slice a n c) (some (.int .i64 4)) none none).run Tryz.prog w = .ok (.slice (dropA 4 c a) (n-4) (c-4)) w:=fun w=>run_dropA (n:=4) E5.sl E5s hge w
   have hr5:=h.dropA (n:=4) (by have:=HB.out;omega)
   have hu:=uint32_first (a:=a) (c:=c) hb (by have:=HB.out;omega) (w.alloc (.cells #[.bool true,.int .u8 ty,.int .u8 fl,.int .u32 ln,.int .u32 0] 113)).drew (show RdB (w.alloc (.cells #[.bool true,.int .u8 ty,.int .u8 fl,.int .u32 ln,.int .u32 0] 113)) _ _ from h4.below (((K0 w).alloc _).below (Nat.le_refl _)))
   have hbd:=n32_bounds hb 0
   obtain ⟨x,hx⟩:∃x,n32 b 0=x:=⟨_,rfl⟩
   rw [hx] at hu hbd
   have HX:=Lib.hid hx
   clear hx
   have hand:=u32_low x hbd.1 hbd.2
   obtain ⟨y,hy⟩:∃y,x%2147483648=y:=⟨_,rfl⟩
   rw [hy] at hand
   have hne:(y != x)=decide (2147483648≤x):=by
     rw [Bool.eq_iff_iff]
     simp only [bne_iff_ne,ne_eq,decide_eq_true_eq]
     omega
   have HY:=Lib.hid hy
   clear hy
   have hinc:n31 b 0=y:=by unfold n31;rw [HX.out,HY.out]
   have HI:=Lib.hid hinc
   clear hinc
   have hcv:∀k,(convert 22 9 (.slice (dropA 4 c a) (n-4) (c-4))).run Tryz.prog (((w.alloc (.cells #[.bool true,.int .u8 ty,.int .u8 fl,.int .u32 ln,.int .u32 0] 113)).alloc (.cells #[] 231)).drewN k) = .ok (.string (strOfNums (b.drop 4))) (((w.alloc (.cells #[.bool true,.int .u8 ty,.int .u8 fl,.int .u32 ln,.int .u32 0] 113)).alloc (.cells #[] 231)).drewN k):=fun k=>conv_rd (show RdB ((w.alloc (.cells #[.bool true,.int .u8 ty,.int .u8 fl,.int .u32 ln,.int .u32 0] 113)).alloc (.cells #[] 231)) _ _ from hr5.below ((((K0 w).alloc _).alloc _).below (Nat.le_refl _)))
   generalize dropA 4 c a=a1 at *
   obtain ⟨sb,hsb⟩:∃sb,strOfNums (b.drop 4)=sb:=⟨_,rfl⟩
   simp only [hsb] at hcv
   have HS:=Lib.hid hsb
   clear hsb
   by_cases hz:y=0
   · subst hz
     go_enter Tryz.func119,Tryz.ntmps119
     go_wp2_with (go_at_call 44;refine (count_any _ _).mono ?_;rintro e w' ⟨rfl,rfl⟩)
     go_region_with (go_at_call 107;refine hu.mono ?_;rintro e w' ⟨rfl,nq,rfl⟩)
     all_goals
       go_wp2_with (go_at_call 44;refine (count_any _ _).mono ?_;rintro e w' ⟨rfl,rfl⟩)
       go_ret2
       refine Parsed.connR ?_ ?_
       · unfold parseUpdate
         rw [if_neg (by simp),if_neg (by have:=HB.out;omega),HI.out]
         rfl
       · exact Kept.below (by repeat (first|exact K0 w|refine Kept.alloc ?_ _|refine Kept.drawn ?_ _)) (Nat.le_refl _)
   have hzb:(y==0)=false:=beq_false_of_ne hz
   have hz:=Lib.hid hz
   go_enter Tryz.func119,Tryz.ntmps119
   go_wp2_with (go_at_call 44;refine (count_any _ _).mono ?_;rintro e w' ⟨rfl,rfl⟩)
   go_region_with (go_at_call 107;refine hu.mono ?_;rintro e w' ⟨rfl,nq,rfl⟩)
   all_goals
     go_wp2
     go_region_with (fail)
     all_goals
       go_wp2
       go_ret2
       refine Parsed.ok (FrV.update ⟨ty,fl,ln,0⟩ (b.drop 4) (w.heap.size+1+1) y (by omega) (by rw [HS.out];exact blk_at _ _ (by simp)) (by have:=HB.out;unfold maxLen;rw [List.length_drop];omega) (hb.drop 4)) ?_ ?_
       · unfold parseUpdate
         rw [if_neg (by simp),if_neg (by have:=HB.out;omega),HI.out,if_neg hz.out]
       · exact Kept.below (by repeat (first|exact K0 w|refine Kept.alloc ?_ _|refine Kept.drawn ?_ _)) (Nat.le_refl _)
 have hs:(st != 0)=true:=by simp;exact hst
 have hst:=Lib.hid hst
 go_enter Tryz.func119,Tryz.ntmps119
 go_wp2_with (go_at_call 44;refine (count_any _ _).mono ?_;rintro e w' ⟨rfl,rfl⟩)
 go_ret2
 exact Parsed.connR (by unfold parseUpdate;rw [if_pos hst.out]) (((K0 w).alloc _).below (Nat.le_refl _))
end Go.Proofs.YtfdlbjibninakaaGreatDoor

namespace Go.Proofs.YtfdlbjibninakaaGreatDoor
set_option maxRecDepth 10000
set_option maxHeartbeats 4000000
open Go.RowKit
theorem wpList_copy_rd {w:World} {ops:Array Oper} {rest:List Oper} {o:Oper} {a:Act} {Q:Exit→Act→World→Prop} (hgd:o.guard=none) (d s:Operand) (ho:o.op = .call { callee:=.builtin .copy,args:=#[d,s],argTypes:=#[22,22] })
   (g off n cap m:Nat) (l:List Int) (cs:Array Value) (t:TypeId) (hd:a.eval d = .slice (some ⟨g,off,none⟩) n cap) (hs:RdB w (a.eval s) l) (hg:w.heap[g]? = some (.cells cs t (0,0))) (hm:m=min l.length n) (hfit:off+n≤cs.size)
   (h:∀cs' w',w'.heap[g]? = some (.cells cs' t (0,0))→Filled cs off (l.take m) cs'→Kept (· ≠ g) w w'→wpList Tryz.prog ops Q rest (a.put o.dst (.int .i64 (m:Int))) w') :
   wpList Tryz.prog ops Q (o::rest) a w:=
 wpList_plain hgd fun _ hK=>by
   obtain ⟨cs',w',hr,h1,h2,h3⟩:=run_copy_rd w o.type g off n cap m (a.eval s) l cs t hg hs hm hfit
   unfold Oper.wp execOp
   simp only [ho,resolve,invoke,builtin,Sem.run_bind,Sem.run_pure,Result.andThen_ok,List.map_toArray,List.map_cons,List.map_nil,hd,hr]
   exact hK _ _ (h cs' w' h1 h2 h3)
theorem parsePing_any {B:Nat} {aE aU aT:Addr} {w:World} (_hV:GV B w aE aU aT) (ty fl ln st:Int) (_hf0:0≤fl) (_hf1:fl<256) (a:Option Addr) (n c:Nat) (b:List Int) (h:RdB w (.slice a n c) b) (_hb:Bs b) :
   Calls Tryz.prog 115 #[.pointer none,hdV ty fl ln st,cntV,.slice a n c] w (Parsed aU w (parsePing ⟨ty,fl,ln,st⟩ b)):=by
 obtain ⟨hnb,hnc,hcm⟩:=h.len
 rw [←hnb] at hnc
 have HB:=Lib.hid hnb
 clear hnb
 by_cases h8:n=8
 · subst h8
   by_cases hst:st=0
   · subst hst
     have bW:Below w.heap.size w ((w.alloc (.cells #[.bool true,.int .u8 ty,.int .u8 fl,.int .u32 ln,.int .u32 0] 113)).alloc (.cells #[.bool true,.int .u8 ty,.int .u8 fl,.int .u32 ln,.int .u32 0,.int .u8 0,.int .u8 0,.int .u8 0,.int .u8 0,.int .u8 0,.int .u8 0,.int .u8 0,.int .u8 0] 155)):=((((K0 w).alloc _).alloc _).below (Nat.le_refl _))
     have hrd:=h.below bW
     go_enter Tryz.func115,Tryz.ntmps115
     go_wp2_with (first|(go_at_call 44;refine (count_any _ _).mono ?_;rintro e w' ⟨rfl,rfl⟩)|((refine wpList_copy_rd (o:=⟨some 31,_,_,_,_,_⟩) rfl (.tmp 29) (.tmp 30) rfl (w.heap.size+1) 5 8 8 8 b #[.bool true,.int .u8 ty,.int .u8 fl,.int .u32 ln,.int .u32 0,.int .u8 0,.int .u8 0,.int .u8 0,.int .u8 0,.int .u8 0,.int .u8 0,.int .u8 0,.int .u8 0] 155 rfl hrd (blk_at _ _ (by simp)) (by have:=HB.out;omega) (by simp) ?_);intro cs' w1 g1 g2 g3))
     go_ret2
     have hl:=HB.out
     rw [List.take_of_length_le (by omega)] at g2
     refine Parsed.ok (FrV.ping ⟨ty,fl,ln,0⟩ b (w.heap.size+1) cs' (by omega) g1 g2.size ?_ ?_ ?_ ?_ ?_ g2.at' hl.symm) ?_ ?_
     · rw [g2.rest 0 (.inl (by omega))];rfl
     · rw [g2.rest 1 (.inl (by omega))];rfl
     · rw [g2.rest 2 (.inl (by omega))];rfl
     · rw [g2.rest 3 (.inl (by omega))];rfl
     · rw [g2.rest 4 (.inl (by omega))];rfl
     · unfold parsePing
       rw [if_neg (by omega),if_neg (by simp)]
     · exact ((((K0 w).alloc _).alloc _).trans (g3.mono fun k hk _=>by omega)).below (Nat.le_refl _)
   have hs:(st != 0)=true:=by simp;exact hst
   have hst:=Lib.hid hst
   go_enter Tryz.func115,Tryz.ntmps115
   go_wp2_with (go_at_call 44;refine (count_any _ _).mono ?_;rintro e w' ⟨rfl,rfl⟩)
   go_ret2
   exact Parsed.conn (by unfold parsePing;rw [if_neg (by have:=HB.out;omega),if_pos hst.out]) (((K0 w).alloc _).below (Nat.le_refl _))
 have h8i:((n:Int) != 8)=true:=by simp;omega
 have h8:=Lib.hid h8
 go_enter Tryz.func115,Tryz.ntmps115
 go_wp2_with (go_at_call 44;refine (count_any _ _).mono ?_;rintro e w' ⟨rfl,rfl⟩)
 go_ret2
 exact Parsed.conn (by unfold parsePing;rw [if_pos (by have:=HB.out;have:=h8.out;omega)]) (((K0 w).alloc _).below (Nat.le_refl _))
end Go.Proofs.YtfdlbjibninakaaGreatDoor

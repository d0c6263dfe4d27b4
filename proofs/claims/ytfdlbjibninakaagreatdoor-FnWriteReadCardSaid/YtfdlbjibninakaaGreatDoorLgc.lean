/- spec.Legal: the tests between. -/
import Derived.Test.YtfdlbjibninakaaGreatDoorLgb
set_option linter.unusedVariables false
set_option linter.unusedSimpArgs false
namespace Go.Proofs.YtfdlbjibninakaaGreatDoor
set_option maxRecDepth 100000
set_option maxHeartbeats 16000000
open Go.RowKit
theorem legal_7 {w wc:World} {x:Fr} {da sa pa:Option Addr} {dc sc pc:Nat} {pad:List Int} {pd:Bool} {A0 u4 u5 u6 u7 u8 u9 u10 u11 u12 u13 u14 u15 u16 u17 u18 u19 u20 u21 u22 u23 u24 u25 u26 u27 u28 u29 u30 u31 u32 u33 u34 u35 u36 u37 u38 u39 u40 u41 u42 u43 u44 u45 u46 u47 u48 u49 u50 u51 u52 u53 u54 u55 u56 u57 u58 u59 u60 u61 u62 u63 u64 u65 u66 u67 u68 u69 u70 u71 u72 u73 u74 u75 u76 u77 u78 u79 u80 u81 u82 u83 u84 u85 u86 u87 u88 u89 u90 u91 u92 u93 u94 u95 u96 u97 u98 u99 u100 u101 u102 u103 u104 u105 u106 u107 u108 u109 u110 u111 u112 u113 u114 u115 u116 u117 u118 u119 u120 u121 u122 u123 u124 u125 u126 u127 u128 u129 u130 u131 u132 u133 u134 u135 u136 u137 u138 u139 u140 u141 u142 u143 u144 u145 u146 u147 u148 u149 u150 u151 u152 u153 u154 u155 u156 u157 u158 u159 u160 u161 u162 u163 u164 u165 u166 u167 u168 u169 u170 u171 u172 u173 u174 u175 u176 u177 u178 u179 u180 u181 u182 u183 u184 u185 u186 u187 u188 u189 u190 u191 u192 u193 u194 u195 u196 u197 u198 u199 u200 u201 u202 u203 u204 u205 u206 u207 u208 u209 u210 u211 u212 u213 u214 u215 u216 u217 u218 u219 u220 u221 u222 u223 u224 u225 u226 u227 u228 u229 u230 u231 u232 u233 u234 u235 u236 u237 u238 u239 u240 u241 u242 u243 u244 u245 u246 u247:Value} (HT:Hid (FrTy x)) (HS:Hid (RdP w (.slice sa x.set.length sc) x.set)) (HP:Hid (RdB w (.slice pa pad.length pc) pad)) (hsm:sc≤2 ^ 63-1) (hsc:x.set.length≤sc) (hdc:x.data.length≤dc) (hdm:dc≤2 ^ 63-1) (hpc:pad.length≤pc) (hpm:pc≤2 ^ 63-1) (hF:wc.heap[w.heap.size]? = some (.cells #[.int .i64 x.ty,.int .i64 x.fl,.int .u32 x.st,.int .i64 x.ln,.slice da x.data.length dc,.int .u32 x.pr,.int .u32 x.la,.int .u32 x.co,.int .u32 x.inc,.bool x.hp,.bool x.ex,.int .u32 x.dep,.int .i64 x.wt,.slice sa x.set.length sc] 29 (0,0))) (hB:Below w.heap.size w wc) (G1:Hid (Ask1 x)) (G3:Hid (Ask3 x pad pd)) (G5:Hid (Ask5 x)) :
   Code.wp Tryz.prog (sndC (sndC (sndC (sndC (Tryz.f32.body.getD .skip))))) (bodyPost Tryz.prog Tryz.f32 (EqAny w (Pl.Legal x pad pd))) ⟨List.toArray (A0::(.slice pa pad.length pc:Value)::(.bool pd:Value)::(.pointer (some ⟨w.heap.size,0,none⟩):Value)::u4::u5::u6::u7::u8::u9::u10::u11::u12::u13::u14::u15::u16::u17::u18::u19::u20::u21::u22::u23::u24::u25::u26::u27::u28::u29::u30::u31::u32::u33::u34::u35::u36::u37::u38::u39::u40::u41::u42::u43::u44::u45::u46::u47::u48::u49::u50::u51::u52::u53::u54::u55::u56::u57::u58::u59::u60::u61::u62::u63::u64::u65::u66::u67::u68::u69::u70::u71::u72::u73::u74::u75::u76::u77::u78::u79::u80::u81::u82::u83::u84::u85::u86::u87::u88::u89::u90::u91::u92::u93::u94::u95::u96::u97::u98::u99::u100::u101::u102::u103::u104::u105::u106::u107::u108::u109::u110::u111::u112::u113::u114::u115::u116::u117::u118::u119::u120::u121::u122::u123::u124::u125::u126::u127::u128::u129::u130::u131::u132::u133::u134::u135::u136::u137::u138::u139::u140::u141::u142::u143::u144::u145::u146::u147::u148::u149::u150::u151::u152::u153::u154::u155::u156::u157::u158::u159::u160::u161::u162::u163::u164::u165::u166::u167::u168::u169::u170::u171::u172::u173::u174::u175::u176::u177::u178::u179::u180::u181::u182::u183::u184::u185::u186::u187::u188::u189::u190::u191::u192::u193::u194::u195::u196::u197::u198::u199::u200::u201::u202::u203::u204::u205::u206::u207::u208::u209::u210::u211::u212::u213::u214::u215::u216::u217::u218::u219::u220::u221::u222::u223::u224::u225::u226::u227::u228::u229::u230::u231::u232::u233::u234::u235::u236::u237::u238::u239::u240::u241::u242::u243::u244::u245::u246::u247 :: []),[]⟩ wc:=by
 have HF:=Lib.hid hF
 have HB:=Lib.hid hB
 clear hF hB
 change Code.wp _ (Code.seq _ _) _ _ _
 apply wp_seq_k
 intro KT hKT
 go_cut [] from 9 (fun wx=>(Ask7 x)∧wx.heap[w.heap.size]? = some (.cells #[.int .i64 x.ty,.int .i64 x.fl,.int .u32 x.st,.int .i64 x.ln,.slice da x.data.length dc,.int .u32 x.pr,.int .u32 x.la,.int .u32 x.co,.int .u32 x.inc,.bool x.hp,.bool x.ex,.int .u32 x.dep,.int .i64 x.wt,.slice sa x.set.length sc] 29 (0,0))∧Below w.heap.size w wx)
 case rest =>
   obtain ⟨g,hF',hB'⟩:=hcut
   apply hKT
   exact legal_s HT HS HP hsm hsc hdc hdm hpc hpm hF' hB' G1 G3 G5 (Lib.hid g)
 case first =>
   clear hKT
   have c9:wc.cell? ⟨w.heap.size,9,none⟩=some (.bool x.hp):=blk_cell HF.out 9
   have c10:wc.cell? ⟨w.heap.size,10,none⟩=some (.bool x.ex):=blk_cell HF.out 10
   have c11:wc.cell? ⟨w.heap.size,11,none⟩=some (.int .u32 x.dep):=blk_cell HF.out 11
   have c12:wc.cell? ⟨w.heap.size,12,none⟩=some (.int .i64 x.wt):=blk_cell HF.out 12
   obtain ⟨hp,hhp⟩:∃q,x.hp=q:=⟨_,rfl⟩
   cases hp
   · have HH:=Lib.hid hhp
     go_wp2_with fail
     go_meet
     case rel=>exact ⟨(fun h=>(by rw [HH.out] at h;cases h)),HF.out,HB.out⟩
   by_cases t0:x.dep=0
   · have b0:(x.dep==0)=true:=by simp [t0]
     clear t0
     obtain ⟨ex,hex⟩:∃q,x.ex=q:=⟨_,rfl⟩
     cases ex
     · by_cases t1:x.wt=0
       · have b1:(x.wt==0)=true:=by simp [t1]
         clear t1
         go_wp2_with fail
         go_ret
         exact .no HB.out
       · have b1:(x.wt==0)=false:=beq_false_of_ne t1
         have T1:=Lib.hid t1
         clear t1
         go_wp2_with fail
         go_meet
         case rel=>exact ⟨(fun _ h=>T1.out h.2.2),HF.out,HB.out⟩
     · have HX:=Lib.hid hex
       go_wp2_with fail
       go_meet
       case rel=>exact ⟨(fun _ h=>(by have e:=h.2.1;rw [HX.out] at e;cases e)),HF.out,HB.out⟩
   · have b0:(x.dep==0)=false:=beq_false_of_ne t0
     have T0:=Lib.hid t0
     clear t0
     go_wp2_with fail
     go_meet
     case rel=>exact ⟨(fun _ h=>T0.out h.1),HF.out,HB.out⟩
theorem legal_5 {w wc:World} {x:Fr} {da sa pa:Option Addr} {dc sc pc:Nat} {pad:List Int} {pd:Bool} {A0 u4 u5 u6 u7 u8 u9 u10 u11 u12 u13 u14 u15 u16 u17 u18 u19 u20 u21 u22 u23 u24 u25 u26 u27 u28 u29 u30 u31 u32 u33 u34 u35 u36 u37 u38 u39 u40 u41 u42 u43 u44 u45 u46 u47 u48 u49 u50 u51 u52 u53 u54 u55 u56 u57 u58 u59 u60 u61 u62 u63 u64 u65 u66 u67 u68 u69 u70 u71 u72 u73 u74 u75 u76 u77 u78 u79 u80 u81 u82 u83 u84 u85 u86 u87 u88 u89 u90 u91 u92 u93 u94 u95 u96 u97 u98 u99 u100 u101 u102 u103 u104 u105 u106 u107 u108 u109 u110 u111 u112 u113 u114 u115 u116 u117 u118 u119 u120 u121 u122 u123 u124 u125 u126 u127 u128 u129 u130 u131 u132 u133 u134 u135 u136 u137 u138 u139 u140 u141 u142 u143 u144 u145 u146 u147 u148 u149 u150 u151 u152 u153 u154 u155 u156 u157 u158 u159 u160 u161 u162 u163 u164 u165 u166 u167 u168 u169 u170 u171 u172 u173 u174 u175 u176 u177 u178 u179 u180 u181 u182 u183 u184 u185 u186 u187 u188 u189 u190 u191 u192 u193 u194 u195 u196 u197 u198 u199 u200 u201 u202 u203 u204 u205 u206 u207 u208 u209 u210 u211 u212 u213 u214 u215 u216 u217 u218 u219 u220 u221 u222 u223 u224 u225 u226 u227 u228 u229 u230 u231 u232 u233 u234 u235 u236 u237 u238 u239 u240 u241 u242 u243 u244 u245 u246 u247:Value} (HT:Hid (FrTy x)) (HS:Hid (RdP w (.slice sa x.set.length sc) x.set)) (HP:Hid (RdB w (.slice pa pad.length pc) pad)) (hsm:sc≤2 ^ 63-1) (hsc:x.set.length≤sc) (hdc:x.data.length≤dc) (hdm:dc≤2 ^ 63-1) (hpc:pad.length≤pc) (hpm:pc≤2 ^ 63-1) (hF:wc.heap[w.heap.size]? = some (.cells #[.int .i64 x.ty,.int .i64 x.fl,.int .u32 x.st,.int .i64 x.ln,.slice da x.data.length dc,.int .u32 x.pr,.int .u32 x.la,.int .u32 x.co,.int .u32 x.inc,.bool x.hp,.bool x.ex,.int .u32 x.dep,.int .i64 x.wt,.slice sa x.set.length sc] 29 (0,0))) (hB:Below w.heap.size w wc) (G1:Hid (Ask1 x)) (G3:Hid (Ask3 x pad pd)) :
   Code.wp Tryz.prog (sndC (sndC (sndC (Tryz.f32.body.getD .skip)))) (bodyPost Tryz.prog Tryz.f32 (EqAny w (Pl.Legal x pad pd))) ⟨List.toArray (A0::(.slice pa pad.length pc:Value)::(.bool pd:Value)::(.pointer (some ⟨w.heap.size,0,none⟩):Value)::u4::u5::u6::u7::u8::u9::u10::u11::u12::u13::u14::u15::u16::u17::u18::u19::u20::u21::u22::u23::u24::u25::u26::u27::u28::u29::u30::u31::u32::u33::u34::u35::u36::u37::u38::u39::u40::u41::u42::u43::u44::u45::u46::u47::u48::u49::u50::u51::u52::u53::u54::u55::u56::u57::u58::u59::u60::u61::u62::u63::u64::u65::u66::u67::u68::u69::u70::u71::u72::u73::u74::u75::u76::u77::u78::u79::u80::u81::u82::u83::u84::u85::u86::u87::u88::u89::u90::u91::u92::u93::u94::u95::u96::u97::u98::u99::u100::u101::u102::u103::u104::u105::u106::u107::u108::u109::u110::u111::u112::u113::u114::u115::u116::u117::u118::u119::u120::u121::u122::u123::u124::u125::u126::u127::u128::u129::u130::u131::u132::u133::u134::u135::u136::u137::u138::u139::u140::u141::u142::u143::u144::u145::u146::u147::u148::u149::u150::u151::u152::u153::u154::u155::u156::u157::u158::u159::u160::u161::u162::u163::u164::u165::u166::u167::u168::u169::u170::u171::u172::u173::u174::u175::u176::u177::u178::u179::u180::u181::u182::u183::u184::u185::u186::u187::u188::u189::u190::u191::u192::u193::u194::u195::u196::u197::u198::u199::u200::u201::u202::u203::u204::u205::u206::u207::u208::u209::u210::u211::u212::u213::u214::u215::u216::u217::u218::u219::u220::u221::u222::u223::u224::u225::u226::u227::u228::u229::u230::u231::u232::u233::u234::u235::u236::u237::u238::u239::u240::u241::u242::u243::u244::u245::u246::u247 :: []),[]⟩ wc:=by
 have HF:=Lib.hid hF
 have HB:=Lib.hid hB
 clear hF hB
 change Code.wp _ (Code.seq _ _) _ _ _
 apply wp_seq_k
 intro KT hKT
 go_cut [] from 9 (fun wx=>(Ask5 x)∧wx.heap[w.heap.size]? = some (.cells #[.int .i64 x.ty,.int .i64 x.fl,.int .u32 x.st,.int .i64 x.ln,.slice da x.data.length dc,.int .u32 x.pr,.int .u32 x.la,.int .u32 x.co,.int .u32 x.inc,.bool x.hp,.bool x.ex,.int .u32 x.dep,.int .i64 x.wt,.slice sa x.set.length sc] 29 (0,0))∧Below w.heap.size w wx)
 case rest =>
   obtain ⟨g,hF',hB'⟩:=hcut
   apply hKT
   exact legal_7 HT HS HP hsm hsc hdc hdm hpc hpm hF' hB' G1 G3 (Lib.hid g)
 case first =>
   clear hKT
   have c0:wc.cell? ⟨w.heap.size,0,none⟩=some (.int .i64 x.ty):=blk_cell HF.out 0
   have c2:wc.cell? ⟨w.heap.size,2,none⟩=some (.int .u32 x.st):=blk_cell HF.out 2
   have c5:wc.cell? ⟨w.heap.size,5,none⟩=some (.int .u32 x.pr):=blk_cell HF.out 5
   have c6:wc.cell? ⟨w.heap.size,6,none⟩=some (.int .u32 x.la):=blk_cell HF.out 6
   have c9:wc.cell? ⟨w.heap.size,9,none⟩=some (.bool x.hp):=blk_cell HF.out 9
   have c11:wc.cell? ⟨w.heap.size,11,none⟩=some (.int .u32 x.dep):=blk_cell HF.out 11
   by_cases h1:2147483647<x.dep
   · skip
     go_wp2_with fail
     go_ret
     exact .no HB.out
   have H1:=Lib.hid h1
   by_cases h2:2147483647<x.pr
   · skip
     go_wp2_with fail
     go_ret
     exact .no HB.out
   have H2:=Lib.hid h2
   by_cases h3:2147483647<x.la
   · skip
     go_wp2_with fail
     go_ret
     exact .no HB.out
   have H3:=Lib.hid h3
   by_cases he:x.dep=x.st
   · have be:(x.dep==x.st)=true:=by simp [he]
     clear he
     by_cases t2:x.ty=2
     · have b2:(x.ty==2)=true:=by simp [t2]
       clear t2
       go_wp2_with fail
       go_ret
       exact .no HB.out
     have b2:(x.ty==2)=false:=beq_false_of_ne t2
     have T2:=Lib.hid t2
     clear t2
     obtain ⟨hp,hhp⟩:∃q,x.hp=q:=⟨_,rfl⟩
     cases hp
     · have HH:=Lib.hid hhp
       go_wp2_with fail
       go_meet
       case rel=>exact ⟨⟨by have:=H1.out;omega,by have:=H2.out;omega,by have:=H3.out;omega,fun h=>h.elim (fun h=>absurd h T2.out) (fun h=>(by rw [HH.out] at h;cases h))⟩,HF.out,HB.out⟩
     · skip
       go_wp2_with fail
       go_ret
       exact .no HB.out
   · have be:(x.dep==x.st)=false:=beq_false_of_ne he
     have HE:=Lib.hid he
     clear he
     go_wp2_with fail
     go_meet
     case rel=>exact ⟨⟨by have:=H1.out;omega,by have:=H2.out;omega,by have:=H3.out;omega,fun _=>HE.out⟩,HF.out,HB.out⟩
theorem legal_rest {w wc:World} {x:Fr} {da sa pa:Option Addr} {dc sc pc:Nat} {pad:List Int} {pd:Bool} {A0 u4 u5 u6 u7 u8 u9 u10 u11 u12 u13 u14 u15 u16 u17 u18 u19 u20 u21 u22 u23 u24 u25 u26 u27 u28 u29 u30 u31 u32 u33 u34 u35 u36 u37 u38 u39 u40 u41 u42 u43 u44 u45 u46 u47 u48 u49 u50 u51 u52 u53 u54 u55 u56 u57 u58 u59 u60 u61 u62 u63 u64 u65 u66 u67 u68 u69 u70 u71 u72 u73 u74 u75 u76 u77 u78 u79 u80 u81 u82 u83 u84 u85 u86 u87 u88 u89 u90 u91 u92 u93 u94 u95 u96 u97 u98 u99 u100 u101 u102 u103 u104 u105 u106 u107 u108 u109 u110 u111 u112 u113 u114 u115 u116 u117 u118 u119 u120 u121 u122 u123 u124 u125 u126 u127 u128 u129 u130 u131 u132 u133 u134 u135 u136 u137 u138 u139 u140 u141 u142 u143 u144 u145 u146 u147 u148 u149 u150 u151 u152 u153 u154 u155 u156 u157 u158 u159 u160 u161 u162 u163 u164 u165 u166 u167 u168 u169 u170 u171 u172 u173 u174 u175 u176 u177 u178 u179 u180 u181 u182 u183 u184 u185 u186 u187 u188 u189 u190 u191 u192 u193 u194 u195 u196 u197 u198 u199 u200 u201 u202 u203 u204 u205 u206 u207 u208 u209 u210 u211 u212 u213 u214 u215 u216 u217 u218 u219 u220 u221 u222 u223 u224 u225 u226 u227 u228 u229 u230 u231 u232 u233 u234 u235 u236 u237 u238 u239 u240 u241 u242 u243 u244 u245 u246 u247:Value} (HT:Hid (FrTy x)) (HS:Hid (RdP w (.slice sa x.set.length sc) x.set)) (HP:Hid (RdB w (.slice pa pad.length pc) pad)) (hsm:sc≤2 ^ 63-1) (hsc:x.set.length≤sc) (hdc:x.data.length≤dc) (hdm:dc≤2 ^ 63-1) (hpc:pad.length≤pc) (hpm:pc≤2 ^ 63-1) (hF:wc.heap[w.heap.size]? = some (.cells #[.int .i64 x.ty,.int .i64 x.fl,.int .u32 x.st,.int .i64 x.ln,.slice da x.data.length dc,.int .u32 x.pr,.int .u32 x.la,.int .u32 x.co,.int .u32 x.inc,.bool x.hp,.bool x.ex,.int .u32 x.dep,.int .i64 x.wt,.slice sa x.set.length sc] 29 (0,0))) (hB:Below w.heap.size w wc) (G1:Hid (Ask1 x)) :
   Code.wp Tryz.prog (sndC (sndC (Tryz.f32.body.getD .skip))) (bodyPost Tryz.prog Tryz.f32 (EqAny w (Pl.Legal x pad pd))) ⟨List.toArray (A0::(.slice pa pad.length pc:Value)::(.bool pd:Value)::(.pointer (some ⟨w.heap.size,0,none⟩):Value)::u4::u5::u6::u7::u8::u9::u10::u11::u12::u13::u14::u15::u16::u17::u18::u19::u20::u21::u22::u23::u24::u25::u26::u27::u28::u29::u30::u31::u32::u33::u34::u35::u36::u37::u38::u39::u40::u41::u42::u43::u44::u45::u46::u47::u48::u49::u50::u51::u52::u53::u54::u55::u56::u57::u58::u59::u60::u61::u62::u63::u64::u65::u66::u67::u68::u69::u70::u71::u72::u73::u74::u75::u76::u77::u78::u79::u80::u81::u82::u83::u84::u85::u86::u87::u88::u89::u90::u91::u92::u93::u94::u95::u96::u97::u98::u99::u100::u101::u102::u103::u104::u105::u106::u107::u108::u109::u110::u111::u112::u113::u114::u115::u116::u117::u118::u119::u120::u121::u122::u123::u124::u125::u126::u127::u128::u129::u130::u131::u132::u133::u134::u135::u136::u137::u138::u139::u140::u141::u142::u143::u144::u145::u146::u147::u148::u149::u150::u151::u152::u153::u154::u155::u156::u157::u158::u159::u160::u161::u162::u163::u164::u165::u166::u167::u168::u169::u170::u171::u172::u173::u174::u175::u176::u177::u178::u179::u180::u181::u182::u183::u184::u185::u186::u187::u188::u189::u190::u191::u192::u193::u194::u195::u196::u197::u198::u199::u200::u201::u202::u203::u204::u205::u206::u207::u208::u209::u210::u211::u212::u213::u214::u215::u216::u217::u218::u219::u220::u221::u222::u223::u224::u225::u226::u227::u228::u229::u230::u231::u232::u233::u234::u235::u236::u237::u238::u239::u240::u241::u242::u243::u244::u245::u246::u247 :: []),[]⟩ wc:=by
 have HF:=Lib.hid hF
 have HB:=Lib.hid hB
 clear hF hB
 change Code.wp _ (Code.seq _ _) _ _ _
 apply wp_seq_k
 intro KT hKT
 go_cut [] from 9 (fun wx=>(Ask3 x pad pd)∧wx.heap[w.heap.size]? = some (.cells #[.int .i64 x.ty,.int .i64 x.fl,.int .u32 x.st,.int .i64 x.ln,.slice da x.data.length dc,.int .u32 x.pr,.int .u32 x.la,.int .u32 x.co,.int .u32 x.inc,.bool x.hp,.bool x.ex,.int .u32 x.dep,.int .i64 x.wt,.slice sa x.set.length sc] 29 (0,0))∧Below w.heap.size w wx)
 case rest =>
   obtain ⟨g,hF',hB'⟩:=hcut
   apply hKT
   exact legal_5 HT HS HP hsm hsc hdc hdm hpc hpm hF' hB' G1 (Lib.hid g)
 case first =>
   clear hKT
   obtain ⟨qz,hqz⟩:∃q,decide (∀y∈pad,y=0)=q:=⟨_,rfl⟩
   have hz:Calls Tryz.prog 63 #[.slice pa pad.length pc] wc fun e w'=>e = .returned (.bool qz)∧wc=w':=(zero_any (HP.out.below HB.out)).mono fun e w' ⟨q,he,hq,hw⟩=>⟨by rw [he,show q=qz by rw [←hqz,Bool.eq_iff_iff,hq,decide_eq_true_iff]],hw⟩
   have HQZ:=Lib.hid hqz
   have HZ:=Lib.hid hz
   clear hqz hz
   have c0:wc.cell? ⟨w.heap.size,0,none⟩=some (.int .i64 x.ty):=blk_cell HF.out 0
   by_cases h255:255<pad.length
   · have h255i:(255:Int)<pad.length:=by omega
     go_wp2_with fail
     go_ret
     exact .no HB.out
   have HL:=Lib.hid h255
   have h255i:¬(255:Int)<pad.length:=by omega
   have hz0:qz=true → ∀y∈pad,y=0:=fun h=>by have e:=HQZ.out;rw [h] at e;exact of_decide_eq_true e
   have HZ0:=Lib.hid hz0
   clear hz0
   cases qz
   · skip
     go_wp2_with (go_at_call 63;refine HZ.out.mono ?_;rintro e w2 ⟨rfl,rfl⟩)
     go_ret
     exact .no HB.out
   cases pd
   · by_cases h0:0<pad.length
     · have h0i:(0:Int)<pad.length:=by omega
       go_wp2_with (go_at_call 63;refine HZ.out.mono ?_;rintro e w2 ⟨rfl,rfl⟩)
       go_ret
       exact .no HB.out
     · have H0:=Lib.hid h0
       have h0i:¬(0:Int)<pad.length:=by omega
       go_wp2_with (go_at_call 63;refine HZ.out.mono ?_;rintro e w2 ⟨rfl,rfl⟩)
       go_meet
       case rel=>exact ⟨⟨by have:=HL.out;omega,HZ0.out (by trivial),fun h=>(by cases h),fun _=>List.eq_nil_of_length_eq_zero (by have:=H0.out;omega)⟩,HF.out,HB.out⟩
   · by_cases t0:x.ty=0
     · have b0:(x.ty != 0)=false:=by simp [t0]
       have T:=Lib.hid t0
       clear t0
       go_wp2_with (go_at_call 63;refine HZ.out.mono ?_;rintro e w2 ⟨rfl,rfl⟩)
       go_meet
       case rel=>exact ⟨⟨by have:=HL.out;omega,HZ0.out (by trivial),fun _ => .inl T.out,fun h=>(by cases h)⟩,HF.out,HB.out⟩
     have b0:(x.ty != 0)=true:=by simpa using t0
     clear t0
     by_cases t1:x.ty=1
     · have b1:(x.ty != 1)=false:=by simp [t1]
       have T:=Lib.hid t1
       clear t1
       go_wp2_with (go_at_call 63;refine HZ.out.mono ?_;rintro e w2 ⟨rfl,rfl⟩)
       go_meet
       case rel=>exact ⟨⟨by have:=HL.out;omega,HZ0.out (by trivial),fun _ => .inr (.inl T.out),fun h=>(by cases h)⟩,HF.out,HB.out⟩
     have b1:(x.ty != 1)=true:=by simpa using t1
     clear t1
     by_cases t5:x.ty=5
     · have b5:(x.ty != 5)=false:=by simp [t5]
       have T:=Lib.hid t5
       clear t5
       go_wp2_with (go_at_call 63;refine HZ.out.mono ?_;rintro e w2 ⟨rfl,rfl⟩)
       go_meet
       case rel=>exact ⟨⟨by have:=HL.out;omega,HZ0.out (by trivial),fun _ => .inr (.inr T.out),fun h=>(by cases h)⟩,HF.out,HB.out⟩
     have b5:(x.ty != 5)=true:=by simpa using t5
     clear t5
     go_wp2_with (go_at_call 63;refine HZ.out.mono ?_;rintro e w2 ⟨rfl,rfl⟩)
     go_ret
     exact .no HB.out
end Go.Proofs.YtfdlbjibninakaaGreatDoor

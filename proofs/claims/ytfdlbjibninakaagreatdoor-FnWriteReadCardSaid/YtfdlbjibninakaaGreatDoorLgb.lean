/- spec.Legal: the parameters. -/
import Derived.Test.YtfdlbjibninakaaGreatDoorCln
import Derived.Test.YtfdlbjibninakaaGreatDoorWz
import Derived.Deep.RegionHeld3
import Derived.Deep.CutRange
import Derived.BigGuard
import Derived.Deep.CutBlock
set_option linter.unusedVariables false
set_option linter.unusedSimpArgs false
namespace Go.Proofs.YtfdlbjibninakaaGreatDoor
set_option maxRecDepth 100000
set_option maxHeartbeats 16000000
open Go.RowKit
structure Ask1 (x:Fr):Prop where
 ty:0≤x.ty∧x.ty≤255
 fl:0≤x.fl
 ms:bits .andNot .i64 x.fl (flF x.ty)=0
 cl:x=Pl.cleanF x
 st:x.st≤2147483647
 dl:x.data.length≤16084
 ln:x.ln=0
 wt:0≤x.wt∧x.wt≤255
def Ask3 (x:Fr) (pad:List Int) (pd:Bool):Prop:=pad.length≤255∧(∀y∈pad,y=0)∧(pd=true→x.ty=0∨x.ty=1∨x.ty=5)∧(pd=false→pad = [])
def Ask5 (x:Fr):Prop:=x.dep≤2147483647∧x.pr≤2147483647∧x.la≤2147483647∧((x.ty=2∨x.hp=true)→x.dep≠x.st)
def Ask7 (x:Fr):Prop:=x.hp=true → ¬(x.dep=0∧x.ex=false∧x.wt=0)
def AskS (l:List (Int × Int)):Prop := ∀p∈l,0≤p.1∧p.1<65536∧(p.1=4→p.2≤2147483647)
section
variable {x : Fr} {pad : List Int} {pd : Bool}
theorem tyOk_st (h:x.ty=0∨x.ty=1∨x.ty=2∨x.ty=3∨x.ty=9) (hs:x.st≠0):Pl.tyOk x:=by unfold Pl.tyOk;rw [if_pos h];exact hs
theorem tyOk_5 (h:x.ty=5) (hs:x.st≠0) (hp:x.pr≠0):Pl.tyOk x:=by unfold Pl.tyOk;simp [h,hs,hp]
theorem tyOk_4 (h:x.ty=4) (hs:x.st=0) (hf:x.fl=0∨x.set = []) (hn:x.set.length<1000):Pl.tyOk x:=by unfold Pl.tyOk;rw [if_neg (by omega),if_neg (by omega),if_pos h];exact ⟨hs,hf,hn⟩
theorem tyOk_6 (h:x.ty=6) (hs:x.st=0) (hn:x.data.length=8):Pl.tyOk x:=by unfold Pl.tyOk;simp [h,hs,hn]
theorem tyOk_7 (h:x.ty=7) (hs:x.st=0):Pl.tyOk x:=by unfold Pl.tyOk;simp [h,hs]
theorem tyOk_8 (h:x.ty=8) (h0:0<x.inc) (h1:x.inc≤2147483647):Pl.tyOk x:=by unfold Pl.tyOk;simp [h,h0,h1]
theorem tyOk_16 (h:x.ty=16) (hs:x.st=0) (hp:x.pr≠0):Pl.tyOk x:=by unfold Pl.tyOk;simp [h,hs,hp]
theorem tyOk_o (h0:x.ty≠0) (h1:x.ty≠1) (h2:x.ty≠2) (h3:x.ty≠3) (h4:x.ty≠4) (h5:x.ty≠5) (h6:x.ty≠6) (h7:x.ty≠7) (h8:x.ty≠8) (h9:x.ty≠9) (h16:x.ty≠16):Pl.tyOk x:=by unfold Pl.tyOk;simp [h0,h1,h2,h3,h4,h5,h6,h7,h8,h9,h16]
theorem askS_snoc {l:List (Int × Int)} {a b:Int} (h:AskS l) (h0:0≤a) (h1:a<65536) (h2:a=4→b≤2147483647):AskS (l ++ [(a,b)]):=by
 intro p hp
 rcases List.mem_append.1 hp with hp|hp
 · exact h p hp
 · rw [List.mem_singleton] at hp
   subst hp
   exact ⟨h0,h1,h2⟩
theorem legal_of (hT:FrTy x) (g1:Ask1 x) (g3:Ask3 x pad pd) (g5:Ask5 x) (g7:Ask7 x) (gs:AskS x.set) (gt:Pl.tyOk x):Pl.Legal x pad pd:=by
 obtain ⟨m1,m2,m3,m4⟩:=g3
 obtain ⟨n1,n2,n3,n4⟩:=g5
 have hF:flF x.ty=0∨flF x.ty=1∨flF x.ty=4∨flF x.ty=5∨flF x.ty=255:=by
   unfold flF
   repeat' split
   all_goals simp
 obtain ⟨k0,k1,k4,k5,k255⟩:=sub_mask g1.fl (by have:=hT.fl;omega) hF rfl g1.ms
 have hfl:Pl.flOk x.ty x.fl:=by
   unfold Pl.flOk
   by_cases h0:x.ty=0
   · rw [if_pos h0]
     exact k1 (by simp [flF,h0])
   rw [if_neg h0]
   by_cases h1:x.ty=1
   · rw [if_pos h1]
     exact k5 (by simp [flF,h1])
   rw [if_neg h1]
   by_cases h5:x.ty=5∨x.ty=9
   · rw [if_pos h5]
     exact k4 (by rw [flF,if_neg h0,if_neg h1,if_pos h5])
   rw [if_neg h5]
   by_cases h4:x.ty=4∨x.ty=6
   · rw [if_pos h4]
     exact k1 (by rw [flF,if_neg h0,if_neg h1,if_neg h5,if_pos h4])
   rw [if_neg h4]
   by_cases h2:x.ty=2∨x.ty=3∨x.ty=7∨x.ty=8∨x.ty=16
   · rw [if_pos h2]
     exact k0 (by rw [flF,if_neg h0,if_neg h1,if_neg h5,if_neg h4,if_pos h2])
   rw [if_neg h2]
   exact ⟨g1.fl,k255⟩
 exact { ty:=⟨g1.ty.1,by have:=g1.ty.2;omega⟩,fl:=hfl,st:=⟨hT.st.1,g1.st⟩,dl:=g1.dl,db:=hT.data,ln:=g1.ln,wt:=g1.wt,pl:=m1,pz:=m2,pt:=m3,pn:=m4,
         dep:=⟨hT.dep.1,n1⟩,pr:=⟨hT.pr.1,n2⟩,la:=⟨hT.la.1,n3⟩,co:=hT.co,ic:=hT.inc,set:=(fun p hp=>⟨(gs p hp).1,(gs p hp).2.1,(hT.set p hp).2.1,(hT.set p hp).2.2,(gs p hp).2.2⟩),cl:=g1.cl,tk:=gt,hz:=g7,hd:=n4 }
end
def sndC:Code→Code
 | .seq _ b=>b
 | c=>c
theorem legal_switch {w wc:World} {x:Fr} {da sa pa:Option Addr} {dc sc pc:Nat} {pad:List Int} {pd:Bool} {A0 u4 u5 u6 u7 u8 u9 u10 u11 u12 u13 u14 u15 u16 u17 u18 u19 u20 u21 u22 u23 u24 u25 u26 u27 u28 u29 u30 u31 u32 u33 u34 u35 u36 u37 u38 u39 u40 u41 u42 u43 u44 u45 u46 u47 u48 u49 u50 u51 u52 u53 u54 u55 u56 u57 u58 u59 u60 u61 u62 u63 u64 u65 u66 u67 u68 u69 u70 u71 u72 u73 u74 u75 u76 u77 u78 u79 u80 u81 u82 u83 u84 u85 u86 u87 u88 u89 u90 u91 u92 u93 u94 u95 u96 u97 u98 u99 u100 u101 u102 u103 u104 u105 u106 u107 u108 u109 u110 u111 u112 u113 u114 u115 u116 u117 u118 u119 u120 u121 u122 u123 u124 u125 u126 u127 u128 u129 u130 u131 u132 u133 u134 u135 u136 u137 u138 u139 u140 u141 u142 u143 u144 u145 u146 u147 u148 u149 u150 u151 u152 u153 u154 u155 u156 u157 u158 u159 u160 u161 u162 u163 u164 u165 u166 u167 u168 u169 u170 u171 u172 u173 u174 u175 u176 u177 u178 u179 u180 u181 u182 u183 u184 u185 u186 u187 u188 u189 u190 u191 u192 u193 u194 u195 u196 u197 u198 u199 u200 u201 u202 u203 u204 u205 u206 u207 u208 u209 u210 u211 u212 u213 u214 u215 u216 u217 u218 u219 u220 u221 u222 u223 u224 u225 u226 u227 u228 u229 u230 u231 u232 u233 u234 u235 u236 u237 u238 u239 u240 u241 u242 u243 u244 u245 u246 u247:Value} (hF:wc.heap[w.heap.size]? = some (.cells #[.int .i64 x.ty,.int .i64 x.fl,.int .u32 x.st,.int .i64 x.ln,.slice da x.data.length dc,.int .u32 x.pr,.int .u32 x.la,.int .u32 x.co,.int .u32 x.inc,.bool x.hp,.bool x.ex,.int .u32 x.dep,.int .i64 x.wt,.slice sa x.set.length sc] 29 (0,0))) (hB:Below w.heap.size w wc) (GS:Hid (Pl.tyOk x→Pl.Legal x pad pd)) :
   Code.wp Tryz.prog (sndC (sndC (sndC (sndC (sndC (sndC (Tryz.f32.body.getD .skip)))))) ) (bodyPost Tryz.prog Tryz.f32 (EqAny w (Pl.Legal x pad pd))) ⟨List.toArray (A0::(.slice pa pad.length pc:Value)::(.bool pd:Value)::(.pointer (some ⟨w.heap.size,0,none⟩):Value)::u4::u5::u6::u7::u8::u9::u10::u11::u12::u13::u14::u15::u16::u17::u18::u19::u20::u21::u22::u23::u24::u25::u26::u27::u28::u29::u30::u31::u32::u33::u34::u35::u36::u37::u38::u39::u40::u41::u42::u43::u44::u45::u46::u47::u48::u49::u50::u51::u52::u53::u54::u55::u56::u57::u58::u59::u60::u61::u62::u63::u64::u65::u66::u67::u68::u69::u70::u71::u72::u73::u74::u75::u76::u77::u78::u79::u80::u81::u82::u83::u84::u85::u86::u87::u88::u89::u90::u91::u92::u93::u94::u95::u96::u97::u98::u99::u100::u101::u102::u103::u104::u105::u106::u107::u108::u109::u110::u111::u112::u113::u114::u115::u116::u117::u118::u119::u120::u121::u122::u123::u124::u125::u126::u127::u128::u129::u130::u131::u132::u133::u134::u135::u136::u137::u138::u139::u140::u141::u142::u143::u144::u145::u146::u147::u148::u149::u150::u151::u152::u153::u154::u155::u156::u157::u158::u159::u160::u161::u162::u163::u164::u165::u166::u167::u168::u169::u170::u171::u172::u173::u174::u175::u176::u177::u178::u179::u180::u181::u182::u183::u184::u185::u186::u187::u188::u189::u190::u191::u192::u193::u194::u195::u196::u197::u198::u199::u200::u201::u202::u203::u204::u205::u206::u207::u208::u209::u210::u211::u212::u213::u214::u215::u216::u217::u218::u219::u220::u221::u222::u223::u224::u225::u226::u227::u228::u229::u230::u231::u232::u233::u234::u235::u236::u237::u238::u239::u240::u241::u242::u243::u244::u245::u246::u247 :: []),[]⟩ wc:=by
 have HB:=Lib.hid hB
 have c0:wc.cell? ⟨w.heap.size,0,none⟩=some (.int .i64 x.ty):=blk_cell hF 0
 have c1:wc.cell? ⟨w.heap.size,1,none⟩=some (.int .i64 x.fl):=blk_cell hF 1
 have c2:wc.cell? ⟨w.heap.size,2,none⟩=some (.int .u32 x.st):=blk_cell hF 2
 have c4:wc.cell? ⟨w.heap.size,4,none⟩=some (.slice da x.data.length dc):=blk_cell hF 4
 have c5:wc.cell? ⟨w.heap.size,5,none⟩=some (.int .u32 x.pr):=blk_cell hF 5
 have c8:wc.cell? ⟨w.heap.size,8,none⟩=some (.int .u32 x.inc):=blk_cell hF 8
 have c13:wc.cell? ⟨w.heap.size,13,none⟩=some (.slice sa x.set.length sc):=blk_cell hF 13
 clear hF hB
 change Code.wp _ (Code.seq _ _) _ _ _
 by_cases t0:x.ty=0
 · have b0:(x.ty==0)=true:=by simp [t0]
   have T:=Lib.hid t0
   clear t0
   go_wp2_with fail
   go_ret
   exact ⟨_,rfl,fun h=>GS.out (tyOk_st (.inl T.out) (by simpa using h)),HB.out⟩
 have b0:(x.ty==0)=false:=beq_false_of_ne t0
 have T0:=Lib.hid t0
 clear t0
 by_cases t1:x.ty=1
 · have b1:(x.ty==1)=true:=by simp [t1]
   have T:=Lib.hid t1
   clear t1
   go_wp2_with fail
   go_ret
   exact ⟨_,rfl,fun h=>GS.out (tyOk_st (.inr (.inl T.out)) (by simpa using h)),HB.out⟩
 have b1:(x.ty==1)=false:=beq_false_of_ne t1
 have T1:=Lib.hid t1
 clear t1
 by_cases t2:x.ty=2
 · have b2:(x.ty==2)=true:=by simp [t2]
   have T:=Lib.hid t2
   clear t2
   go_wp2_with fail
   go_ret
   exact ⟨_,rfl,fun h=>GS.out (tyOk_st (.inr (.inr (.inl T.out))) (by simpa using h)),HB.out⟩
 have b2:(x.ty==2)=false:=beq_false_of_ne t2
 have T2:=Lib.hid t2
 clear t2
 by_cases t3:x.ty=3
 · have b3:(x.ty==3)=true:=by simp [t3]
   have T:=Lib.hid t3
   clear t3
   go_wp2_with fail
   go_ret
   exact ⟨_,rfl,fun h=>GS.out (tyOk_st (.inr (.inr (.inr (.inl T.out)))) (by simpa using h)),HB.out⟩
 have b3:(x.ty==3)=false:=beq_false_of_ne t3
 have T3:=Lib.hid t3
 clear t3
 by_cases t9:x.ty=9
 · have b9:(x.ty==9)=true:=by simp [t9]
   have T:=Lib.hid t9
   clear t9
   go_wp2_with fail
   go_ret
   exact ⟨_,rfl,fun h=>GS.out (tyOk_st (.inr (.inr (.inr (.inr T.out)))) (by simpa using h)),HB.out⟩
 have b9:(x.ty==9)=false:=beq_false_of_ne t9
 have T9:=Lib.hid t9
 clear t9
 by_cases t5:x.ty=5
 · have b5:(x.ty==5)=true:=by simp [t5]
   have T:=Lib.hid t5
   clear t5
   by_cases s0:x.st=0
   · have r0:(x.st != 0)=false:=by simp [s0]
     clear s0
     go_wp2_with fail
     go_ret
     exact .no HB.out
   have r0:(x.st != 0)=true:=by simpa using s0
   have S0:=Lib.hid s0
   clear s0
   go_wp2_with fail
   go_ret
   exact ⟨_,rfl,fun h=>GS.out (tyOk_5 T.out S0.out (by simpa using h)),HB.out⟩
 have b5:(x.ty==5)=false:=beq_false_of_ne t5
 have T5:=Lib.hid t5
 clear t5
 by_cases t4:x.ty=4
 · have b4:(x.ty==4)=true:=by simp [t4]
   have T:=Lib.hid t4
   clear t4
   by_cases s0:x.st=0
   case neg => 
     have r0:(x.st==0)=false:=beq_false_of_ne s0
     clear s0
     go_wp2_with fail
     go_ret
     exact .no HB.out
   have r0:(x.st==0)=true:=by simp [s0]
   have S0:=Lib.hid s0
   clear s0
   by_cases f0:x.fl=0
   · have u0:(x.fl==0)=true:=by simp [f0]
     have F0:=Lib.hid f0
     clear f0
     go_wp2_with fail
     go_ret
     exact ⟨_,rfl,fun h=>GS.out (tyOk_4 T.out S0.out (.inl F0.out) (by simp at h;omega)),HB.out⟩
   have u0:(x.fl==0)=false:=beq_false_of_ne f0
   clear f0
   by_cases n0:x.set.length=0
   · have N0:=Lib.hid n0
     have v0:((x.set.length:Int)==0)=true:=by simp [List.eq_nil_of_length_eq_zero n0]
     go_wp2_with fail
     go_ret
     exact ⟨_,rfl,fun h=>GS.out (tyOk_4 T.out S0.out (.inr (List.eq_nil_of_length_eq_zero N0.out)) (by have:=N0.out;omega)),HB.out⟩
   have v0:((x.set.length:Int)==0)=false:=beq_false_of_ne (by omega)
   go_wp2_with fail
   go_ret
   exact .no HB.out
 have b4:(x.ty==4)=false:=beq_false_of_ne t4
 have T4:=Lib.hid t4
 clear t4
 by_cases t6:x.ty=6
 · have b6:(x.ty==6)=true:=by simp [t6]
   have T:=Lib.hid t6
   clear t6
   by_cases s0:x.st=0
   case neg => 
     have r0:(x.st==0)=false:=beq_false_of_ne s0
     clear s0
     go_wp2_with fail
     go_ret
     exact .no HB.out
   have r0:(x.st==0)=true:=by simp [s0]
   have S0:=Lib.hid s0
   clear s0
   go_wp2_with fail
   go_ret
   exact ⟨_,rfl,fun h=>GS.out (tyOk_6 T.out S0.out (by simp at h;omega)),HB.out⟩
 have b6:(x.ty==6)=false:=beq_false_of_ne t6
 have T6:=Lib.hid t6
 clear t6
 by_cases t7:x.ty=7
 · have b7:(x.ty==7)=true:=by simp [t7]
   have T:=Lib.hid t7
   clear t7
   by_cases s0:x.st=0
   case neg => 
     have r0:(x.st==0)=false:=beq_false_of_ne s0
     clear s0
     go_wp2_with fail
     go_ret
     exact .no HB.out
   have r0:(x.st==0)=true:=by simp [s0]
   have S0:=Lib.hid s0
   clear s0
   go_wp2_with fail
   go_ret
   exact ⟨_,rfl,fun h=>GS.out (tyOk_7 T.out S0.out),HB.out⟩
 have b7:(x.ty==7)=false:=beq_false_of_ne t7
 have T7:=Lib.hid t7
 clear t7
 by_cases t8:x.ty=8
 · have b8:(x.ty==8)=true:=by simp [t8]
   have T:=Lib.hid t8
   clear t8
   by_cases i0:0<x.inc
   · have I0:=Lib.hid i0
     go_wp2_with fail
     go_ret
     exact ⟨_,rfl,fun h=>GS.out (tyOk_8 T.out I0.out (by simpa using h)),HB.out⟩
   go_wp2_with fail
   go_ret
   exact .no HB.out
 have b8:(x.ty==8)=false:=beq_false_of_ne t8
 have T8:=Lib.hid t8
 clear t8
 by_cases t16:x.ty=16
 · have b16:(x.ty==16)=true:=by simp [t16]
   have T:=Lib.hid t16
   clear t16
   by_cases s0:x.st=0
   case neg => 
     have r0:(x.st==0)=false:=beq_false_of_ne s0
     clear s0
     go_wp2_with fail
     go_ret
     exact .no HB.out
   have r0:(x.st==0)=true:=by simp [s0]
   have S0:=Lib.hid s0
   clear s0
   go_wp2_with fail
   go_ret
   exact ⟨_,rfl,fun h=>GS.out (tyOk_16 T.out S0.out (by simpa using h)),HB.out⟩
 have b16:(x.ty==16)=false:=beq_false_of_ne t16
 have T16:=Lib.hid t16
 clear t16
 go_wp2_with fail
 go_ret
 exact ⟨_,rfl,fun h=>GS.out (tyOk_o T0.out T1.out T2.out T3.out T4.out T5.out T6.out T7.out T8.out T9.out T16.out),HB.out⟩
end Go.Proofs.YtfdlbjibninakaaGreatDoor

namespace Go.Proofs.YtfdlbjibninakaaGreatDoor
set_option maxRecDepth 100000
set_option maxHeartbeats 16000000
open Go.RowKit
theorem legal_s {w wc:World} {x:Fr} {da sa pa:Option Addr} {dc sc pc:Nat} {pad:List Int} {pd:Bool} {A0 u4 u5 u6 u7 u8 u9 u10 u11 u12 u13 u14 u15 u16 u17 u18 u19 u20 u21 u22 u23 u24 u25 u26 u27 u28 u29 u30 u31 u32 u33 u34 u35 u36 u37 u38 u39 u40 u41 u42 u43 u44 u45 u46 u47 u48 u49 u50 u51 u52 u53 u54 u55 u56 u57 u58 u59 u60 u61 u62 u63 u64 u65 u66 u67 u68 u69 u70 u71 u72 u73 u74 u75 u76 u77 u78 u79 u80 u81 u82 u83 u84 u85 u86 u87 u88 u89 u90 u91 u92 u93 u94 u95 u96 u97 u98 u99 u100 u101 u102 u103 u104 u105 u106 u107 u108 u109 u110 u111 u112 u113 u114 u115 u116 u117 u118 u119 u120 u121 u122 u123 u124 u125 u126 u127 u128 u129 u130 u131 u132 u133 u134 u135 u136 u137 u138 u139 u140 u141 u142 u143 u144 u145 u146 u147 u148 u149 u150 u151 u152 u153 u154 u155 u156 u157 u158 u159 u160 u161 u162 u163 u164 u165 u166 u167 u168 u169 u170 u171 u172 u173 u174 u175 u176 u177 u178 u179 u180 u181 u182 u183 u184 u185 u186 u187 u188 u189 u190 u191 u192 u193 u194 u195 u196 u197 u198 u199 u200 u201 u202 u203 u204 u205 u206 u207 u208 u209 u210 u211 u212 u213 u214 u215 u216 u217 u218 u219 u220 u221 u222 u223 u224 u225 u226 u227 u228 u229 u230 u231 u232 u233 u234 u235 u236 u237 u238 u239 u240 u241 u242 u243 u244 u245 u246 u247:Value} (HT:Hid (FrTy x)) (HS:Hid (RdP w (.slice sa x.set.length sc) x.set)) (HP:Hid (RdB w (.slice pa pad.length pc) pad)) (hsm:sc≤2 ^ 63-1) (hsc:x.set.length≤sc) (hdc:x.data.length≤dc) (hdm:dc≤2 ^ 63-1) (hpc:pad.length≤pc) (hpm:pc≤2 ^ 63-1) (hF:wc.heap[w.heap.size]? = some (.cells #[.int .i64 x.ty,.int .i64 x.fl,.int .u32 x.st,.int .i64 x.ln,.slice da x.data.length dc,.int .u32 x.pr,.int .u32 x.la,.int .u32 x.co,.int .u32 x.inc,.bool x.hp,.bool x.ex,.int .u32 x.dep,.int .i64 x.wt,.slice sa x.set.length sc] 29 (0,0))) (hB:Below w.heap.size w wc) (G1:Hid (Ask1 x)) (G3:Hid (Ask3 x pad pd)) (G5:Hid (Ask5 x)) (G7:Hid (Ask7 x)) :
   Code.wp Tryz.prog (sndC (sndC (sndC (sndC (sndC (Tryz.f32.body.getD .skip)))))) (bodyPost Tryz.prog Tryz.f32 (EqAny w (Pl.Legal x pad pd))) ⟨List.toArray (A0::(.slice pa pad.length pc:Value)::(.bool pd:Value)::(.pointer (some ⟨w.heap.size,0,none⟩):Value)::u4::u5::u6::u7::u8::u9::u10::u11::u12::u13::u14::u15::u16::u17::u18::u19::u20::u21::u22::u23::u24::u25::u26::u27::u28::u29::u30::u31::u32::u33::u34::u35::u36::u37::u38::u39::u40::u41::u42::u43::u44::u45::u46::u47::u48::u49::u50::u51::u52::u53::u54::u55::u56::u57::u58::u59::u60::u61::u62::u63::u64::u65::u66::u67::u68::u69::u70::u71::u72::u73::u74::u75::u76::u77::u78::u79::u80::u81::u82::u83::u84::u85::u86::u87::u88::u89::u90::u91::u92::u93::u94::u95::u96::u97::u98::u99::u100::u101::u102::u103::u104::u105::u106::u107::u108::u109::u110::u111::u112::u113::u114::u115::u116::u117::u118::u119::u120::u121::u122::u123::u124::u125::u126::u127::u128::u129::u130::u131::u132::u133::u134::u135::u136::u137::u138::u139::u140::u141::u142::u143::u144::u145::u146::u147::u148::u149::u150::u151::u152::u153::u154::u155::u156::u157::u158::u159::u160::u161::u162::u163::u164::u165::u166::u167::u168::u169::u170::u171::u172::u173::u174::u175::u176::u177::u178::u179::u180::u181::u182::u183::u184::u185::u186::u187::u188::u189::u190::u191::u192::u193::u194::u195::u196::u197::u198::u199::u200::u201::u202::u203::u204::u205::u206::u207::u208::u209::u210::u211::u212::u213::u214::u215::u216::u217::u218::u219::u220::u221::u222::u223::u224::u225::u226::u227::u228::u229::u230::u231::u232::u233::u234::u235::u236::u237::u238::u239::u240::u241::u242::u243::u244::u245::u246::u247 :: []),[]⟩ wc:=by
 have HF:=Lib.hid hF
 have HB:=Lib.hid hB
 clear hF hB
 change Code.wp _ (Code.seq _ _) _ _ _
 apply wp_seq_k
 intro KT hKT
 go_cut [] from 9 (fun wx=>(AskS x.set)∧wx.heap[w.heap.size]? = some (.cells #[.int .i64 x.ty,.int .i64 x.fl,.int .u32 x.st,.int .i64 x.ln,.slice da x.data.length dc,.int .u32 x.pr,.int .u32 x.la,.int .u32 x.co,.int .u32 x.inc,.bool x.hp,.bool x.ex,.int .u32 x.dep,.int .i64 x.wt,.slice sa x.set.length sc] 29 (0,0))∧Below w.heap.size w wx)
 case rest =>
   obtain ⟨g,hF',hB'⟩:=hcut
   apply hKT
   exact legal_switch hF' hB' (Lib.hid fun gt=>legal_of HT.out G1.out G3.out G5.out G7.out g gt)
 case first =>
   clear hKT
   have c13:wc.cell? ⟨w.heap.size,13,none⟩=some (.slice sa x.set.length sc):=blk_cell HF.out 13
   go_wp2_with fail
   clear c13
   go_loopw [146] (fun i wr => ∃k:Nat,k≤x.set.length∧i = .int .i64 k∧AskS (x.set.take k)∧Below w.heap.size w wr∧wr.heap[w.heap.size]? = some (.cells #[.int .i64 x.ty,.int .i64 x.fl,.int .u32 x.st,.int .i64 x.ln,.slice da x.data.length dc,.int .u32 x.pr,.int .u32 x.la,.int .u32 x.co,.int .u32 x.inc,.bool x.hp,.bool x.ex,.int .u32 x.dep,.int .i64 x.wt,.slice sa x.set.length sc] 29 (0,0))) (fun i _=>x.set.length-(intOf i).toNat)
   case atStart=>exact ⟨0,Nat.zero_le _,rfl,(fun p hp=>by simp at hp),HB.out,HF.out⟩
   case round =>
     obtain ⟨k,hk,rfl,hok,hbel,hF⟩:=hrel
     have HOK:=Lib.hid hok
     have HFR:=Lib.hid hF
     have HBL:=Lib.hid hbel
     clear hok hF hbel
     by_cases hlt:k<x.set.length
     · obtain ⟨_,_,e,-,-,hq⟩:=HS.out.below HBL.out
       cases e
       obtain ⟨b,o,rfl,d1,d2⟩:=hq k _ (List.getElem?_eq_getElem hlt)
       have hsn:x.set.take (k+1)=x.set.take k ++ [x.set[k]]:=List.take_succ_eq_append_getElem hlt
       have hpr:x.set[k]=(x.set[k].1,x.set[k].2):=rfl
       have HSN:Hid (x.set.take (k+1)=x.set.take k ++ [(x.set[k].1,x.set[k].2)]):=Lib.hid hsn
       have HBX:=Lib.hid (Below.then HBL.out (Nat.le_refl _) (((Kept.refl (· < wr.heap.size) wr).alloc (.cells #[.int .i64 x.set[k].1,.int .u32 x.set[k].2] 97)).below (Nat.le_refl _)))
       clear hq hsn hpr
       generalize x.set[k].1=id at *
       generalize x.set[k].2=vl at *
       have hkn:(k:Int)<x.set.length:=by omega
       by_cases h1:id<0
       · go_upto_region 12 with (refine wpList_load_at rfl 97 _ rfl b _ rfl #[.int .i64 id,.int .u32 vl] (two_at d1 d2 (by simp;omega)) Tryz.underlying97 infoSs' ?_)
         go_wp2_with fail
         go_ret
         exact .no HBX.out
       by_cases h2:65535<id
       · go_upto_region 12 with (refine wpList_load_at rfl 97 _ rfl b _ rfl #[.int .i64 id,.int .u32 vl] (two_at d1 d2 (by simp;omega)) Tryz.underlying97 infoSs' ?_)
         go_wp2_with fail
         go_ret
         exact .no HBX.out
       by_cases h4:id=4
       · subst h4
         by_cases h5:2147483647<vl
         · go_upto_region 12 with (refine wpList_load_at rfl 97 _ rfl b _ rfl #[.int .i64 4,.int .u32 vl] (two_at d1 d2 (by simp;omega)) Tryz.underlying97 infoSs' ?_)
           go_wp2_with fail
           go_ret
           exact .no HBX.out
         · go_upto_region 12 with (refine wpList_load_at rfl 97 _ rfl b _ rfl #[.int .i64 4,.int .u32 vl] (two_at d1 d2 (by simp;omega)) Tryz.underlying97 infoSs' ?_)
           go_wp2_with fail
           go_roundw
           case rel=>exact ⟨k+1,by omega,by go_num,(by rw [HSN.out];exact askS_snoc HOK.out (by omega) (by omega) (fun _=>by omega)),HBX.out,blk_alloc HFR.out⟩
           case measure=>simp [intOf];omega
       · have h4b:(id==4)=false:=beq_false_of_ne h4
         have H4:=Lib.hid h4
         clear h4
         go_upto_region 12 with (refine wpList_load_at rfl 97 _ rfl b _ rfl #[.int .i64 id,.int .u32 vl] (two_at d1 d2 (by simp;omega)) Tryz.underlying97 infoSs' ?_)
         go_wp2_with fail
         go_roundw
         case rel=>exact ⟨k+1,by omega,by go_num,(by rw [HSN.out];exact askS_snoc HOK.out (by omega) (by omega) (fun e=>absurd e H4.out)),HBX.out,blk_alloc HFR.out⟩
         case measure=>simp [intOf];omega
     · obtain rfl:k=x.set.length:=by omega
       have hall:=HOK.out
       rw [List.take_length] at hall
       have HALL:=Lib.hid hall
       clear hall HOK
       go_wp2_with fail
       go_meet
       case rel=>exact ⟨HALL.out,HFR.out,HBL.out⟩
end Go.Proofs.YtfdlbjibninakaaGreatDoor

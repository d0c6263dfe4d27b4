/- Reading: the small functions that the parsers of frames call. -/
import Derived.Test.YtfdlbjibninakaaGreatDoorRf
import Derived.Test.YtfdlbjibninakaaGreatDoorBase
set_option linter.unusedVariables false
set_option linter.unusedSimpArgs false
namespace Go.Proofs.YtfdlbjibninakaaGreatDoor
set_option maxRecDepth 10000
set_option maxHeartbeats 4000000
open Go.RowKit
def Bs (l:List Int):Prop := ∀x∈l,0≤x∧x<256
theorem RdI.at {k:IntKind} {w:World} {v:Value} {l:List Int} (h:RdI k w v l) {j:Nat} (hj:j<l.length):∃b o c,v = .slice (some ⟨b,o,none⟩) l.length c∧w.cell? ⟨b,o+j,none⟩=some (.int k (l.getD j 0)):=by
 obtain ⟨a,c,rfl,-,-,h3⟩:=h
 obtain ⟨b,o,rfl,hc⟩:=h3 j _ (List.getElem?_eq_getElem hj)
 exact ⟨b,o,c,rfl,by rw [hc,List.getD_eq_getElem?_getD,List.getElem?_eq_getElem hj];rfl⟩
theorem Bs.at {l:List Int} (h:Bs l) (j:Nat):0≤gb l j∧gb l j<256:=by
 unfold gb
 rw [List.getD_eq_getElem?_getD]
 rcases Nat.lt_or_ge j l.length with hj|hj
 · rw [List.getElem?_eq_getElem hj];exact h _ (List.getElem_mem hj)
 · rw [List.getElem?_eq_none hj];exact ⟨by decide,by decide⟩
theorem Bs.drop {l:List Int} (h:Bs l) (n:Nat):Bs (l.drop n):=fun x hx=>h x (List.mem_of_mem_drop hx)
theorem Bs.take {l:List Int} (h:Bs l) (n:Nat):Bs (l.take n):=fun x hx=>h x (List.mem_of_mem_take hx)
theorem wrap_u32 {n:Int} (h0:0≤n) (h1:n<4294967296):IntKind.u32.wrap n=n:=by
 have:(2:Int) ^ 32=4294967296:=by decide
 simp [IntKind.wrap,IntKind.bits,IntKind.signed,this]
 omega
theorem wrap_u16 {n:Int} (h0:0≤n) (h1:n<65536):IntKind.u16.wrap n=n:=by
 have:(2:Int) ^ 16=65536:=by decide
 simp [IntKind.wrap,IntKind.bits,IntKind.signed,this]
 omega
theorem u32_or_add (k:Nat) {a c:Int} (ha:0≤a) (ha1:a<((2 ^ k:Nat):Int)) (hc:0≤c) (hs:c*((2 ^ k:Nat):Int)+a<4294967296):bits .or .u32 a (c*((2 ^ k:Nat):Int))=c*((2 ^ k:Nat):Int)+a:=by
 obtain ⟨a,rfl⟩:=Int.eq_ofNat_of_zero_le ha
 obtain ⟨c,rfl⟩:=Int.eq_ofNat_of_zero_le hc
 have hor:=@Nat.two_pow_add_eq_or_of_lt k a (by omega) c
 generalize 2 ^ k=q at *
 have e:(c:Int)*(q:Int)=((q*c:Nat):Int):=by rw [Int.natCast_mul,Int.mul_comm]
 rw [e] at hs ⊢
 have:=u32_or_nat a (q*c) (by omega) (by omega)
 rw [this,Nat.or_comm,←hor,Int.natCast_add]
theorem u16_or_add {a c:Int} (ha:0≤a) (ha1:a<256) (hc:0≤c) (hs:c<256):bits .or .u16 a (c*256)=c*256+a:=by
 obtain ⟨a,rfl⟩:=Int.eq_ofNat_of_zero_le ha
 obtain ⟨c,rfl⟩:=Int.eq_ofNat_of_zero_le hc
 have hor:=@Nat.two_pow_add_eq_or_of_lt 8 a (by omega) c
 have e:(c:Int)*256=((2 ^ 8*c:Nat):Int):=by rw [Int.natCast_mul,Int.mul_comm];rfl
 rw [e]
 have:=u16_or_nat a (2 ^ 8*c) (by omega) (by omega)
 rw [this,Nat.or_comm,←hor,Int.natCast_add]
theorem ret_int {k:IntKind} {a b:Int} (h:a=b):Ending.returned (.int k a) = .returned (.int k b):=by rw [h]
theorem uint32_any {w:World} {v:Value} {l:List Int} (h:RdB w v l) (hb:Bs l) (h4:4≤l.length) :
   Calls Tryz.prog 107 #[.agg #[],v] w fun e w'=>e = .returned (.int .u32 (n32 l 0)) ∧ ∃n,(w.alloc (.cells #[] 231)).drewN n=w':=by
 obtain ⟨b,o,c,rfl,c0⟩:=h.at (j:=0) (by omega)
 obtain ⟨b',o',c',e1,c1⟩:=h.at (j:=1) (by omega)
 cases e1
 obtain ⟨b',o',c',e1,c2⟩:=h.at (j:=2) (by omega)
 cases e1
 obtain ⟨b',o',c',e1,c3⟩:=h.at (j:=3) (by omega)
 cases e1
 have g0:=hb.at 0
 have g1:=hb.at 1
 have g2:=hb.at 2
 have g3:=hb.at 3
 unfold n32
 unfold gb at *
 generalize l.getD 0 0=x0 at *
 generalize l.getD 1 0=x1 at *
 generalize l.getD 2 0=x2 at *
 generalize l.getD 3 0=x3 at *
 have w0:=wrap_u32 g0.1 (by omega)
 have w1:=wrap_u32 g1.1 (by omega)
 have w2:=wrap_u32 g2.1 (by omega)
 have w3:=wrap_u32 g3.1 (by omega)
 have w4:IntKind.u32.wrap (x2*256)=x2*256:=wrap_u32 (by omega) (by omega)
 have w5:IntKind.u32.wrap (x1*65536)=x1*65536:=wrap_u32 (by omega) (by omega)
 have w6:IntKind.u32.wrap (x0*16777216)=x0*16777216:=wrap_u32 (by omega) (by omega)
 have o1:bits .or .u32 x3 (x2*256)=x2*256+x3:=u32_or_add 8 g3.1 (by simp;omega) g2.1 (by simp;omega)
 have o2:bits .or .u32 (x2*256+x3) (x1*65536)=x1*65536+(x2*256+x3):=u32_or_add 16 (by omega) (by simp;omega) g1.1 (by simp;omega)
 have o3:bits .or .u32 (x1*65536+(x2*256+x3)) (x0*16777216)=x0*16777216+(x1*65536+(x2*256+x3)):=u32_or_add 24 (by omega) (by simp;omega) g0.1 (by simp;omega)
 have i00:0<l.length:=by omega
 have i0:(0:Int)<(l.length:Int):=by omega
 have i1:(1:Int)<(l.length:Int):=by omega
 have i2:(2:Int)<(l.length:Int):=by omega
 have i3:(3:Int)<(l.length:Int):=by omega
 rw [Nat.add_zero] at c0
 have k0:=cell_alloc c0 (.cells #[] 231)
 have k1:=cell_alloc c1 (.cells #[] 231)
 have k2:=cell_alloc c2 (.cells #[] 231)
 have k3:=cell_alloc c3 (.cells #[] 231)
 clear c0 c1 c2 c3 h hb
 go_enter Tryz.func107,Tryz.ntmps107
 go_wp2
 go_quiet (fail)
 go_wp2
 go_ret
 exact ⟨ret_int (by omega),_,rfl⟩
theorem uint16_any {w:World} {v:Value} {l:List Int} (h:RdB w v l) (hb:Bs l) (h4:2≤l.length) :
   Calls Tryz.prog 123 #[.agg #[],v] w fun e w'=>e = .returned (.int .u16 (n16 l 0)) ∧ ∃n,(w.alloc (.cells #[] 231)).drewN n=w':=by
 obtain ⟨b,o,c,rfl,c0⟩:=h.at (j:=0) (by omega)
 obtain ⟨b',o',c',e1,c1⟩:=h.at (j:=1) (by omega)
 cases e1
 have g0:=hb.at 0
 have g1:=hb.at 1
 unfold n16
 unfold gb at *
 generalize l.getD 0 0=x0 at *
 generalize l.getD 1 0=x1 at *
 have w0:=wrap_u16 g0.1 (by omega)
 have w1:=wrap_u16 g1.1 (by omega)
 have w4:IntKind.u16.wrap (x0*256)=x0*256:=wrap_u16 (by omega) (by omega)
 have o1:bits .or .u16 x1 (x0*256)=x0*256+x1:=u16_or_add g1.1 g1.2 g0.1 g0.2
 have i00:0<l.length:=by omega
 have i0:(0:Int)<(l.length:Int):=by omega
 have i1:(1:Int)<(l.length:Int):=by omega
 rw [Nat.add_zero] at c0
 have k0:=cell_alloc c0 (.cells #[] 231)
 have k1:=cell_alloc c1 (.cells #[] 231)
 clear c0 c1 h hb
 go_enter Tryz.func123,Tryz.ntmps123
 go_wp2
 go_quiet (fail)
 go_wp2
 go_ret
 exact ⟨rfl,_,rfl⟩
theorem has_any (fl k:Int) (hk:k=1∨k=4∨k=8∨k=32) (h0:0≤fl) (h1:fl<256) (w:World) :
   Calls Tryz.prog 92 #[.int .u8 fl,.int .u8 k] w fun e w'=>e = .returned (.bool (bitOf fl k))∧w=w':=by
 have e:bits .and .u8 fl k=fl / k%2*k:=by
   rcases hk with rfl|rfl|rfl|rfl
   · rw [u8_and1 fl h0 h1];omega
   · exact u8_and4 fl h0 h1
   · exact u8_and8 fl h0 h1
   · exact u8_and32 fl h0 h1
 have e2:(fl / k%2*k==k)=bitOf fl k:=by
   unfold bitOf
   rw [Bool.eq_iff_iff]
   simp only [beq_iff_eq,decide_eq_true_eq]
   rcases hk with rfl|rfl|rfl|rfl<;>omega
 clear hk
 go_enter Tryz.func92,Tryz.ntmps92
 go_wp2
 go_ret
 exact ⟨rfl,rfl⟩
theorem slice_to {k:IntKind} {T e:Nat} {v:Value} {w:World} {l:List Int} (h:RdI k w v l) (hT:Tryz.prog.underlying T=some (.slice e)) (he:(Tryz.prog.info? e).map (·.size)=some 1) {m:Nat} (hm:m≤l.length) :
   ∃a c,(∀w,(Instr.slice T v none (some (.int .i64 (m:Int))) none).run Tryz.prog w = .ok (.slice a m c) w)∧RdI k w (.slice a m c) (l.take m) ∧ ∀K,inK K v→inK K (.slice a m c):=by
 obtain ⟨i,hi,hs⟩:=Option.map_eq_some_iff.1 he
 obtain ⟨a,c,rfl,h1,h2,h3⟩:=h
 refine ⟨a,c,fun w => ?_,RdI.take ⟨a,c,rfl,h1,h2,h3⟩ hm,?_⟩
 · have hz:∀x:Addr,x.add 0=x:=fun x=>by cases x;unfold Addr.add;split<;>simp_all
   have hmc:m≤c:=by omega
   simp [Instr.slice,run_underlying hT,Instr.sliceBounds,Instr.sliceBound,asIntOf,sizeOf,typeInfo,hi,hmc]
   intro hc
   cases a<;>simp [hz]
 · intro K hk
   cases a with
   | none=>simp [inK]
   | some a =>
     rcases hk with hk|hk
     · left;omega
     · right;exact hk
theorem slice_mid {k:IntKind} {T e:Nat} {v:Value} {w:World} {l:List Int} (h:RdI k w v l) (hT:Tryz.prog.underlying T=some (.slice e)) (he:(Tryz.prog.info? e).map (·.size)=some 1) {n m:Nat} (hn:n≤m) (hm:m≤l.length) :
   ∃a c,(∀w,(Instr.slice T v (some (.int .i64 (n:Int))) (some (.int .i64 (m:Int))) none).run Tryz.prog w = .ok (.slice a (m-n) c) w)∧RdI k w (.slice a (m-n) c) ((l.take m).drop n) ∧ ∀K,inK K v→inK K (.slice a (m-n) c):=by
 obtain ⟨i,hi,hs⟩:=Option.map_eq_some_iff.1 he
 obtain ⟨a,c,rfl,h1,h2,h3⟩:=h
 have hmc:m≤c:=by omega
 refine ⟨if c=n then a else a.map (·.add n),c-n,fun w => ?_,⟨if c=n then a else a.map (·.add n),c-n,by simp only [List.length_drop,List.length_take,Nat.min_eq_left hm],by rw [List.length_drop,List.length_take];omega,by omega,fun j x hj => ?_⟩,?_⟩
 · simp [Instr.slice,run_underlying hT,Instr.sliceBounds,Instr.sliceBound,asIntOf,sizeOf,typeInfo,hi,hs,hmc,hn]
 · rw [List.getElem?_drop] at hj
   have hlt:=(List.getElem?_eq_some_iff.1 hj).1
   rw [List.length_take] at hlt
   rw [List.getElem?_take_of_lt (by omega)] at hj
   obtain ⟨b,o,rfl,hc⟩:=h3 _ x hj
   rw [if_neg (by omega)]
   exact ⟨b,o+n,by simp [Addr.add_lit],by rwa [show o+n+j=o+(n+j) by omega]⟩
 · intro K hk
   cases a with
   | none=>simp [inK]
   | some a =>
     have hb:(a.add n).block=a.block:=by unfold Addr.add;split<;>rfl
     simp only [inK] at hk
     by_cases hcn:c=n
     · simp only [hcn,if_true,inK]
       rcases hk with hk|hk
       · left;omega
       · right;exact hk
     · simp only [hcn,if_false,Option.map_some,inK,hb]
       rcases hk with hk|hk
       · left;omega
       · right;exact hk
def dropA (n c:Nat) (a:Option Addr):Option Addr:=if c=n then a else a.map (·.add n)
theorem run_dropA {T e:Nat} {a:Option Addr} {len c:Nat} (hT:Tryz.prog.underlying T=some (.slice e)) (he:(Tryz.prog.info? e).map (·.size)=some 1) {n:Nat} (hn:n≤len) (w:World) :
   (Instr.slice T (.slice a len c) (some (.int .i64 (n:Int))) none none).run Tryz.prog w = .ok (.slice (dropA n c a) (len-n) (c-n)) w:=by
 obtain ⟨i,hi,hs⟩:=Option.map_eq_some_iff.1 he
 unfold dropA
 simp [Instr.slice,run_underlying hT,Instr.sliceBounds,Instr.sliceBound,asIntOf,sizeOf,typeInfo,hi,hs]
 omega
theorem RdI.dropA {k:IntKind} {w:World} {a:Option Addr} {len c:Nat} {l:List Int} (h:RdI k w (.slice a len c) l) {n:Nat} (hn:n≤l.length):RdI k w (.slice (dropA n c a) (len-n) (c-n)) (l.drop n):=by
 obtain ⟨a,c,e,h1,h2,h3⟩:=h
 cases e
 unfold Go.Proofs.YtfdlbjibninakaaGreatDoor.dropA
 refine ⟨_,_,by rw [List.length_drop],by rw [List.length_drop];omega,by omega,fun j x hj => ?_⟩
 rw [List.getElem?_drop] at hj
 obtain ⟨b,o,rfl,hc⟩:=h3 _ x hj
 have:=(List.getElem?_eq_some_iff.1 hj).1
 rw [if_neg (by omega)]
 exact ⟨b,o+n,by simp [Addr.add_lit],by rwa [show o+n+j=o+(n+j) by omega]⟩
theorem RdI.len {k:IntKind} {w:World} {a:Option Addr} {len c:Nat} {l:List Int} (h:RdI k w (.slice a len c) l):len=l.length∧l.length≤c∧c≤9223372036854775807:=by
 obtain ⟨a,c,e,h1,h2,-⟩:=h
 cases e
 exact ⟨rfl,h1,h2⟩
theorem E5s:(Tryz.prog.info? 5).map (·.size)=some 1:=by kernel_rfl
theorem cell0 {w:World} {a:Option Addr} {n c:Nat} {l:List Int} (h:RdB w (.slice a n c) l) {j:Nat} (hj:j<n):∃b o,a=some ⟨b,o,none⟩∧w.cell? ⟨b,o+j,none⟩=some (.int .u8 (gb l j)):=by
 have hl:=h.len.1
 subst hl
 obtain ⟨b,o,c',e,hc⟩:=h.at hj
 cases e
 exact ⟨b,o,rfl,hc⟩
theorem readByte_some {w:World} {a:Option Addr} {n c:Nat} {l:List Int} (h:RdB w (.slice a n c) l) (hn:0<n) :
   Calls Tryz.prog 125 #[.slice a n c] w fun e w'=>e = .returned (.tuple #[.slice (dropA 1 c a) (n-1) (c-1),.int .u8 (gb l 0),.nilIface]) ∧ ∃n,w.drewN n=w':=by
 obtain ⟨b,o,rfl,c0⟩:=cell0 h hn
 have hs':∀w,(Instr.slice 22 (.slice (some ⟨b,o,none⟩) n c) (some (.int .i64 1)) none none).run Tryz.prog w = .ok (.slice (dropA 1 c (some ⟨b,o,none⟩)) (n-1) (c-1)) w:=fun w=>run_dropA (n:=1) E5.sl E5s hn w
 have c0':w.cell? ⟨b,o,none⟩=some (.int .u8 (gb l 0)):=c0
 have hl1:((n:Int)==0)=false:=beq_false_of_ne (by omega)
 have hl3:(0:Int)<(n:Int):=by omega
 generalize dropA 1 c (some ⟨b,o,none⟩)=a2 at *
 generalize gb l 0=x at *
 clear c0 h
 go_enter Tryz.func125,Tryz.ntmps125
 go_wp2
 go_quiet (fail)
 go_wp2
 go_ret3
 exact ⟨rfl,_,rfl⟩
theorem readByte_none {w:World} {B:Nat} {aE aU aT:Addr} (hV:GV B w aE aU aT) (a:Option Addr) (c:Nat) :
   Calls Tryz.prog 125 #[.slice a 0 c] w fun e w'=>e = .returned (.tuple #[.slice none 0 0,.int .u8 0,.iface 251 (.pointer (some aU))]) ∧ ∃n,w.drewN n=w':=by
 have hU:=hV.u
 go_enter Tryz.func125,Tryz.ntmps125
 go_wp2
 go_quiet (fail)
 go_wp2
 go_ret3
 exact ⟨rfl,_,rfl⟩
theorem readUint32_none {w:World} {B:Nat} {aE aU aT:Addr} (hV:GV B w aE aU aT) (a:Option Addr) (n c:Nat) (hn:n<4) :
   Calls Tryz.prog 126 #[.slice a n c] w fun e w'=>e = .returned (.tuple #[.slice none 0 0,.int .u32 0,.iface 251 (.pointer (some aU))]) ∧ ∃n,w.drewN n=w':=by
 have hU:=hV.u
 have hn':(n:Int)<4:=by omega
 go_enter Tryz.func126,Tryz.ntmps126
 go_wp2
 go_quiet (fail)
 go_wp2
 go_ret3
 exact ⟨rfl,_,rfl⟩
theorem readUint32_some {w:World} {a:Option Addr} {n c:Nat} {l:List Int} (h:RdB w (.slice a n c) l) (hb:Bs l) (h4:4≤n) :
   Calls Tryz.prog 126 #[.slice a n c] w fun e w'=>e = .returned (.tuple #[.slice (dropA 4 c a) (n-4) (c-4),.int .u32 (n32 l 0),.nilIface]) ∧ ∃n,(w.alloc (.cells #[] 231)).drewN n=w':=by
 have hln:=h.len.1
 have hl3:¬(n:Int)<4:=by omega
 have hc4:4≤c:=by have:=h.len;omega
 have hs':∀w,(Instr.slice 22 (.slice a n c) (some (.int .i64 4)) none none).run Tryz.prog w = .ok (.slice (dropA 4 c a) (n-4) (c-4)) w:=fun w=>run_dropA (n:=4) E5.sl E5s h4 w
 have hr2:RdB w.drew (.slice a 4 c) (l.take 4):=RdI.take h h4
 have hu:=uint32_any hr2 (hb.take 4) (by rw [List.length_take];omega)
 have e32:n32 (l.take 4) 0=n32 l 0:=by
   unfold n32 gb
   simp [List.getD_eq_getElem?_getD,List.getElem?_take]
 rw [e32] at hu
 generalize n32 l 0=x at *
 generalize dropA 4 c a=a2 at *
 clear hr2 h hln e32
 go_enter Tryz.func126,Tryz.ntmps126
 go_wp2
 go_region_with (go_at_call 107;refine hu.mono ?_;rintro e w' ⟨rfl,nq,rfl⟩)
 all_goals
   go_wp2
   go_ret3
   exact ⟨rfl,_,rfl⟩
end Go.Proofs.YtfdlbjibninakaaGreatDoor

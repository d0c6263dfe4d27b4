/- impl.write at any legal frame, with any padding. -/
import Derived.Test.YtfdlbjibninakaaGreatDoorWm6
import Derived.Test.YtfdlbjibninakaaGreatDoorWz
import Derived.Test.YtfdlbjibninakaaGreatDoorRd
import Derived.Deep.RegionHeld3
set_option linter.unusedVariables false
set_option linter.unusedSimpArgs false
namespace Go.Proofs.YtfdlbjibninakaaGreatDoor
set_option maxRecDepth 10000
set_option maxHeartbeats 4000000
open Go.RowKit
variable {K : Nat → Prop} {w : World} {bF cl bW : Nat} {cur out : List Int} {wb al : Value}
theorem WS.drewN (h:WS K w bF cl bW cur out wb al) (n:Nat):WS K (w.drewN n) bF cl bW cur out wb al:=
 h.widen (fun k hk => .inl hk) ⟨rfl,rfl,rfl,Nat.le_refl _,fun _ _=>rfl⟩
theorem Sent.boxed {o:Obj} {n:Nat} {e:Ending} {w':World} (hs:Sent K ((w.alloc o).drewN n) bF cl bW out e w'):Sent K w bF cl bW out e w':=by
 obtain ⟨rfl,hk,h⟩:=hs
 exact ⟨rfl,((Kept.refl K w).alloc o).trans ⟨hk.os,hk.tape,hk.output,hk.size,hk.block⟩,h⟩
theorem RdB.boxed {v:Value} {l:List Int} (h:RdB w v l) (hK:inK K v) (o:Obj) (n:Nat):RdB ((w.alloc o).drewN n) v l:=
 (h.kept ((Kept.refl K w).alloc o) hK).below (w':=(w.alloc o).drewN n) ⟨rfl,rfl,rfl,Nat.le_refl _,fun _ _=>rfl⟩
theorem rawSent {l:List Int} {v:Value} (h:WS K w bF cl bW cur out wb al) (t fl s:Int) (hs0:0≤s) (hs1:s<4294967296) (hv:RdB w v l) (hK:inK K v) (hl:l.length≤100000) (ho:out.length≤50000000) :
   Calls Tryz.prog 78 #[.pointer (some ⟨bF,0,none⟩),.int .u8 t,.int .u8 fl,.int .u32 s,v] w (Sent K w bF cl bW (out++frB t fl s l)):=
 (writeRaw_any h t fl s hs0 hs1 hv hK (by omega) (by omega)).mono fun e w' ⟨he,hk,wb',al',h'⟩=>he▸Sent.fin t fl s l hk h' rfl (by omega)
theorem bitE (f:Int) (c:Int):∃(c1:Int) (e1:Bool),bits .and .i64 f c=c1∧(c1 != 0)=e1:=⟨_,_,rfl,rfl⟩
theorem bit1 {f:Int} (h:f=0∨f=1∨f=4∨f=5) {c1:Int} {e1:Bool} (h1:bits .and .i64 f 1=c1) (h2:(c1 != 0)=e1):(if e1 then 1 else 0:Int)=f%2:=by
 rcases h with rfl|rfl|rfl|rfl<;>subst h1<;>subst h2<;>decide
theorem bit4 {f:Int} (h:f=0∨f=1∨f=4∨f=5) {c1:Int} {e1:Bool} (h1:bits .and .i64 f 4=c1) (h2:(c1 != 0)=e1):(if e1 then 4 else 0:Int)=f-f%2:=by
 rcases h with rfl|rfl|rfl|rfl<;>subst h1<;>subst h2<;>decide
theorem iw_rst (h:WS K w bF cl bW cur out wb al) {x:Fr} {dv sv pv:Value} {pad:List Int} {pd:Bool} (hok:Pl.Legal x pad pd) (hd:RdB w dv x.data) (hdK:inK K dv) (ho:out.length≤50000000) (ht:x.ty=3) :
   Calls Tryz.prog 36 #[.pointer (some ⟨bF,0,none⟩),.agg (frX x dv sv),pv] w (Sent K w bF cl bW (out++Pl.wBytes x pad pd)):=by
 have htk:=hok.tk
 have hfl:=hok.fl
 have hst:=hok.st
 have hdl:=hok.dl
 unfold Pl.tyOk at htk
 unfold Pl.flOk at hfl
 simp [ht] at htk hfl
 have eW:Pl.wBytes x pad pd=frB 3 0 x.st (Pl.w32 x.co):=by
   unfold Pl.wBytes Pl.wPay Pl.wFl frB
   simp [ht,hfl]
 rw [eW]
 have EW:=Lib.hid eW
 obtain ⟨c1,e1,hc1,he1⟩:=bitE x.fl 1
 obtain ⟨c4,e4,hc4,he4⟩:=bitE x.fl 4
 skip
 have HA:=Lib.hid fun o n=>(h.alloc o).drewN n
 have HD:=Lib.hid fun o n=>hd.boxed hdK o n
 have HOK:=Lib.hid hok
 unfold frX frameC
 rw [ht]
 have s0:0<x.st:=by omega
 clear hok eW hfl h hd htk
 go_enter Tryz.func36,Tryz.ntmps36
 go_wp2_with fail
 go_quiet (fail)
 go_wp2_with (go_at_call 69;refine (wRst (HA.out _ _) x.st x.co (by omega) (by omega) HOK.out.co.1 HOK.out.co.2 ho).mono ?_;rintro e w2 hs;obtain ⟨rfl,hs2⟩:=id hs)
 go_ret
 exact Sent.boxed hs
theorem iw_window (h:WS K w bF cl bW cur out wb al) {x:Fr} {dv sv pv:Value} {pad:List Int} {pd:Bool} (hok:Pl.Legal x pad pd) (hd:RdB w dv x.data) (hdK:inK K dv) (ho:out.length≤50000000) (ht:x.ty=8) :
   Calls Tryz.prog 36 #[.pointer (some ⟨bF,0,none⟩),.agg (frX x dv sv),pv] w (Sent K w bF cl bW (out++Pl.wBytes x pad pd)):=by
 have htk:=hok.tk
 have hfl:=hok.fl
 have hst:=hok.st
 have hdl:=hok.dl
 unfold Pl.tyOk at htk
 unfold Pl.flOk at hfl
 simp [ht] at htk hfl
 obtain ⟨t1,t2⟩:=htk
 have eW:Pl.wBytes x pad pd=frB 8 0 x.st (Pl.w32 x.inc):=by
   unfold Pl.wBytes Pl.wPay Pl.wFl frB
   simp [ht,hfl]
 rw [eW]
 have EW:=Lib.hid eW
 obtain ⟨c1,e1,hc1,he1⟩:=bitE x.fl 1
 obtain ⟨c4,e4,hc4,he4⟩:=bitE x.fl 4
 skip
 have HA:=Lib.hid fun o n=>(h.alloc o).drewN n
 have HD:=Lib.hid fun o n=>hd.boxed hdK o n
 have HOK:=Lib.hid hok
 unfold frX frameC
 rw [ht]
 skip
 clear hok eW hfl h hd
 go_enter Tryz.func36,Tryz.ntmps36
 go_wp2_with fail
 go_quiet (fail)
 go_wp2_with (go_at_call 75;refine (wWindow (HA.out _ _) x.st x.inc (by omega) (by omega) (by omega) (by omega) ho).mono ?_;rintro e w2 hs;obtain ⟨rfl,hs2⟩:=id hs)
 go_ret
 exact Sent.boxed hs
theorem iw_goaway (h:WS K w bF cl bW cur out wb al) {x:Fr} {dv sv pv:Value} {pad:List Int} {pd:Bool} (hok:Pl.Legal x pad pd) (hd:RdB w dv x.data) (hdK:inK K dv) (ho:out.length≤50000000) (ht:x.ty=7) :
   Calls Tryz.prog 36 #[.pointer (some ⟨bF,0,none⟩),.agg (frX x dv sv),pv] w (Sent K w bF cl bW (out++Pl.wBytes x pad pd)):=by
 have htk:=hok.tk
 have hfl:=hok.fl
 have hst:=hok.st
 have hdl:=hok.dl
 unfold Pl.tyOk at htk
 unfold Pl.flOk at hfl
 simp [ht] at htk hfl
 have eW:Pl.wBytes x pad pd=frB 7 0 0 (Pl.w32 x.la++(Pl.w32 x.co++x.data)):=by
   unfold Pl.wBytes Pl.wPay Pl.wFl frB
   simp [ht,hfl,htk]
 rw [eW]
 have EW:=Lib.hid eW
 obtain ⟨c1,e1,hc1,he1⟩:=bitE x.fl 1
 obtain ⟨c4,e4,hc4,he4⟩:=bitE x.fl 4
 skip
 have HA:=Lib.hid fun o n=>(h.alloc o).drewN n
 have HD:=Lib.hid fun o n=>hd.boxed hdK o n
 have HOK:=Lib.hid hok
 unfold frX frameC
 rw [ht]
 skip
 clear hok eW hfl h hd htk
 go_enter Tryz.func36,Tryz.ntmps36
 go_wp2_with fail
 go_quiet (fail)
 go_wp2_with (go_at_call 74;refine (wGoAway (HA.out _ _) x.la x.co HOK.out.la.1 HOK.out.la.2 HOK.out.co.1 HOK.out.co.2 ho (HD.out _ _) hdK (by omega)).mono ?_;rintro e w2 hs;obtain ⟨rfl,hs2⟩:=id hs)
 go_ret
 exact Sent.boxed hs
theorem iw_cont (h:WS K w bF cl bW cur out wb al) {x:Fr} {dv sv pv:Value} {pad:List Int} {pd:Bool} (hok:Pl.Legal x pad pd) (hd:RdB w dv x.data) (hdK:inK K dv) (ho:out.length≤50000000) (ht:x.ty=9) :
   Calls Tryz.prog 36 #[.pointer (some ⟨bF,0,none⟩),.agg (frX x dv sv),pv] w (Sent K w bF cl bW (out++Pl.wBytes x pad pd)):=by
 have htk:=hok.tk
 have hfl:=hok.fl
 have hst:=hok.st
 have hdl:=hok.dl
 unfold Pl.tyOk at htk
 unfold Pl.flOk at hfl
 simp [ht] at htk hfl
 have eW:Pl.wBytes x pad pd=frB 9 x.fl x.st x.data:=by
   unfold Pl.wBytes Pl.wPay Pl.wFl frB
   simp [ht]
 rw [eW]
 have EW:=Lib.hid eW
 obtain ⟨c1,e1,hc1,he1⟩:=bitE x.fl 1
 obtain ⟨c4,e4,hc4,he4⟩:=bitE x.fl 4
 have hfe:(if e4 then 4 else 0:Int)=x.fl:=by rw [bit4 (by omega) hc4 he4];omega
 have HFE:=Lib.hid hfe
 clear hfe
 have HA:=Lib.hid fun o n=>(h.alloc o).drewN n
 have HD:=Lib.hid fun o n=>hd.boxed hdK o n
 have HOK:=Lib.hid hok
 unfold frX frameC
 rw [ht]
 have s0:0<x.st:=by omega
 clear hok eW hfl h hd htk
 go_enter Tryz.func36,Tryz.ntmps36
 go_wp2_with fail
 go_quiet (fail)
 go_wp2_with (go_at_call 76;refine (wCont (HA.out _ _) x.st (by omega) (by omega) e4 ho (HD.out _ _) hdK (by omega)).mono ?_;rintro e w2 hs;obtain ⟨rfl,hs2⟩:=id hs)
 go_ret
 rw [HFE.out] at hs
 exact Sent.boxed hs
theorem iw_raw (h:WS K w bF cl bW cur out wb al) {x:Fr} {dv sv pv:Value} {pad:List Int} {pd:Bool} (hok:Pl.Legal x pad pd) (hd:RdB w dv x.data) (hdK:inK K dv) (ho:out.length≤50000000) (ht:10≤x.ty∧x.ty≠16) :
   Calls Tryz.prog 36 #[.pointer (some ⟨bF,0,none⟩),.agg (frX x dv sv),pv] w (Sent K w bF cl bW (out++Pl.wBytes x pad pd)):=by
 have htk:=hok.tk
 have hfl:=hok.fl
 have hst:=hok.st
 have hdl:=hok.dl
 unfold Pl.tyOk at htk
 unfold Pl.flOk at hfl
 obtain ⟨ht1,ht2⟩:=ht
 have hty:=hok.ty
 rw [if_neg (by omega),if_neg (by omega),if_neg (by omega),if_neg (by omega),if_neg (by omega)] at hfl
 have eW:Pl.wBytes x pad pd=frB x.ty x.fl x.st x.data:=by
   unfold Pl.wBytes Pl.wPay Pl.wFl frB
   rw [if_neg (by omega),if_neg (by omega),if_neg (by omega),if_neg (by omega),if_neg (by omega),if_neg (by omega),if_neg ht2,if_neg (by omega)]
 rw [eW]
 have EW:=Lib.hid eW
 obtain ⟨c1,e1,hc1,he1⟩:=bitE x.fl 1
 obtain ⟨c4,e4,hc4,he4⟩:=bitE x.fl 4
 have t0:(x.ty==0)=false:=beq_false_of_ne (by omega)
 have t1:(x.ty==1)=false:=beq_false_of_ne (by omega)
 have t2:(x.ty==2)=false:=beq_false_of_ne (by omega)
 have t3:(x.ty==3)=false:=beq_false_of_ne (by omega)
 have t4:(x.ty==4)=false:=beq_false_of_ne (by omega)
 have t5:(x.ty==5)=false:=beq_false_of_ne (by omega)
 have t6:(x.ty==6)=false:=beq_false_of_ne (by omega)
 have t7:(x.ty==7)=false:=beq_false_of_ne (by omega)
 have t8:(x.ty==8)=false:=beq_false_of_ne (by omega)
 have t9:(x.ty==9)=false:=beq_false_of_ne (by omega)
 have t16:(x.ty==16)=false:=beq_false_of_ne (by omega)
 have wt1:IntKind.u8.wrap x.ty=x.ty:=wrap_u8 (by omega) (by omega)
 have wt2:IntKind.u8.wrap x.fl=x.fl:=wrap_u8 (by omega) (by omega)
 have HA:=Lib.hid fun o n=>(h.alloc o).drewN n
 have HD:=Lib.hid fun o n=>hd.boxed hdK o n
 have HOK:=Lib.hid hok
 unfold frX frameC
 skip
 clear hty
 clear hok eW hfl h hd htk
 go_enter Tryz.func36,Tryz.ntmps36
 go_wp2_with fail
 go_quiet (fail)
 go_wp2_with (go_at_call 78;refine ((rawSent (HA.out _ _) x.ty x.fl x.st (by omega) (by omega) (HD.out _ _) hdK (by omega) ho)).mono ?_;rintro e w2 hs;obtain ⟨rfl,hs2⟩:=id hs)
 go_ret
 exact Sent.boxed hs
theorem iw_data (h:WS K w bF cl bW cur out wb al) {x:Fr} {dv sv:Value} {pad:List Int} {pd:Bool} (hok:Pl.Legal x pad pd) (hd:RdB w dv x.data) (hdK:inK K dv) (ho:out.length≤50000000) (ht:x.ty=0) (hpd:pd=false) :
   Calls Tryz.prog 36 #[.pointer (some ⟨bF,0,none⟩),.agg (frX x dv sv),.slice none 0 0] w (Sent K w bF cl bW (out++Pl.wBytes x pad pd)):=by
 have htk:=hok.tk
 have hfl:=hok.fl
 have hst:=hok.st
 have hdl:=hok.dl
 unfold Pl.tyOk at htk
 unfold Pl.flOk at hfl
 simp [ht] at htk hfl
 subst hpd
 have hpn:=hok.pn rfl
 subst hpn
 have eW:Pl.wBytes x [] false=frB 0 x.fl x.st x.data:=by
   unfold Pl.wBytes Pl.wPay Pl.wFl frB
   simp [ht]
 rw [eW]
 have EW:=Lib.hid eW
 obtain ⟨c1,e1,hc1,he1⟩:=bitE x.fl 1
 obtain ⟨c4,e4,hc4,he4⟩:=bitE x.fl 4
 have hfe:(if e1 then 1 else 0:Int)=x.fl:=by rw [bit1 (by omega) hc1 he1];omega
 have HFE:=Lib.hid hfe
 clear hfe
 have HA:=Lib.hid fun o n=>(h.alloc o).drewN n
 have HD:=Lib.hid fun o n=>hd.boxed hdK o n
 have HOK:=Lib.hid hok
 unfold frX frameC
 rw [ht]
 have s0:0<x.st:=by omega
 clear hok eW hfl h hd htk
 go_enter Tryz.func36,Tryz.ntmps36
 go_wp2_with fail
 go_quiet (fail)
 go_wp2_with (go_at_call 65;refine (wData (startData_nopad (HA.out _ _) x.st (by omega) (by omega) e1 ho (HD.out _ _) hdK (by omega)) (by omega) ho).mono ?_;rintro e w2 hs;obtain ⟨rfl,hs2⟩:=id hs)
 go_ret
 rw [HFE.out] at hs
 exact Sent.boxed hs
theorem iw_dataP (h:WS K w bF cl bW cur out wb al) {x:Fr} {dv sv:Value} {pad:List Int} {pd:Bool} (hok:Pl.Legal x pad pd) (hd:RdB w dv x.data) (hdK:inK K dv) (ho:out.length≤50000000) (ht:x.ty=0) (hpd:pd=true) {pa:Addr} {pc:Nat} (hp:RdB w (.slice (some pa) pad.length pc) pad) (hpK:inK K (.slice (some pa) pad.length pc)) :
   Calls Tryz.prog 36 #[.pointer (some ⟨bF,0,none⟩),.agg (frX x dv sv),.slice (some pa) pad.length pc] w (Sent K w bF cl bW (out++Pl.wBytes x pad pd)):=by
 have htk:=hok.tk
 have hfl:=hok.fl
 have hst:=hok.st
 have hdl:=hok.dl
 unfold Pl.tyOk at htk
 unfold Pl.flOk at hfl
 simp [ht] at htk hfl
 subst hpd
 have eW:Pl.wBytes x pad true=frB 0 (x.fl+8) x.st ((pad.length:Int)::(x.data++pad)):=by
   unfold Pl.wBytes Pl.wPay Pl.wFl frB
   simp [ht]
 rw [eW]
 have EW:=Lib.hid eW
 obtain ⟨c1,e1,hc1,he1⟩:=bitE x.fl 1
 obtain ⟨c4,e4,hc4,he4⟩:=bitE x.fl 4
 have hfe:(if e1 then 9 else 8:Int)=x.fl+8:=by have:=bit1 (by omega) hc1 he1;cases e1<;>simp at this ⊢ <;> omega
 have HFE:=Lib.hid hfe
 clear hfe
 have HP:=Lib.hid fun o n=>hp.boxed hpK o n
 clear hp
 have HA:=Lib.hid fun o n=>(h.alloc o).drewN n
 have HD:=Lib.hid fun o n=>hd.boxed hdK o n
 have HOK:=Lib.hid hok
 unfold frX frameC
 rw [ht]
 have s0:0<x.st:=by omega
 clear hok eW hfl h hd htk
 go_enter Tryz.func36,Tryz.ntmps36
 go_wp2_with fail
 go_quiet (fail)
 go_wp2_with (go_at_call 64;refine (wDataP (startData_padded (HA.out _ _) x.st (by omega) (by omega) e1 ho (HD.out _ _) hdK (by omega) (HP.out _ _) hpK HOK.out.pl HOK.out.pz) (by have:=HOK.out.pl;rw [List.length_cons,List.length_append];omega) ho).mono ?_;rintro e w2 hs;obtain ⟨rfl,hs2⟩:=id hs)
 go_ret
 rw [HFE.out] at hs
 exact Sent.boxed hs
theorem iw_update (h:WS K w bF cl bW cur out wb al) {x:Fr} {dv sv pv:Value} {pad:List Int} {pd:Bool} (hok:Pl.Legal x pad pd) (hd:RdB w dv x.data) (hdK:inK K dv) (ho:out.length≤50000000) (ht:x.ty=16) :
   Calls Tryz.prog 36 #[.pointer (some ⟨bF,0,none⟩),.agg (frX x dv sv),pv] w (Sent K w bF cl bW (out++Pl.wBytes x pad pd)):=by
 have htk:=hok.tk
 have hfl:=hok.fl
 have hst:=hok.st
 have hdl:=hok.dl
 unfold Pl.tyOk at htk
 unfold Pl.flOk at hfl
 simp [ht] at htk hfl
 obtain ⟨t1,t2⟩:=htk
 have eW:Pl.wBytes x pad pd=frB 16 0 0 (Pl.w32 x.pr++x.data):=by
   unfold Pl.wBytes Pl.wPay Pl.wFl frB
   simp [ht,hfl,t1]
 rw [eW]
 have EW:=Lib.hid eW
 obtain ⟨c1,e1,hc1,he1⟩:=bitE x.fl 1
 obtain ⟨c4,e4,hc4,he4⟩:=bitE x.fl 4
 have hcv:∀o n,(convert 22 9 dv).run Tryz.prog ((w.alloc o).drewN n) = .ok (.string (strOfNums x.data)) ((w.alloc o).drewN n):=fun o n=>conv_rd (hd.boxed hdK o n)
 have HA:=Lib.hid fun o n=>(h.alloc o).drewN n
 have HD:=Lib.hid fun o n=>hd.boxed hdK o n
 have HOK:=Lib.hid hok
 unfold frX frameC
 rw [ht]
 skip
 clear hok eW hfl h hd
 go_enter Tryz.func36,Tryz.ntmps36
 go_wp2_with fail
 go_quiet (fail)
 go_wp2_with (go_at_call 77;refine (wUpdate (HA.out _ _) x.pr (by have h:=HOK.out.pr;omega) (by have h:=HOK.out.pr;omega) ho HOK.out.db (by omega)).mono ?_;rintro e w2 hs;obtain ⟨rfl,hs2⟩:=id hs)
 go_ret
 exact Sent.boxed hs
theorem iw_ack (h:WS K w bF cl bW cur out wb al) {x:Fr} {dv sv pv:Value} {pad:List Int} {pd:Bool} (hok:Pl.Legal x pad pd) (hd:RdB w dv x.data) (hdK:inK K dv) (ho:out.length≤50000000) (ht:x.ty=4) (h1:x.fl=1) :
   Calls Tryz.prog 36 #[.pointer (some ⟨bF,0,none⟩),.agg (frX x dv sv),pv] w (Sent K w bF cl bW (out++Pl.wBytes x pad pd)):=by
 have htk:=hok.tk
 have hfl:=hok.fl
 have hst:=hok.st
 have hdl:=hok.dl
 unfold Pl.tyOk at htk
 unfold Pl.flOk at hfl
 simp [ht] at htk hfl
 obtain ⟨t1,t2,t3⟩:=htk
 have t4:x.set = []:=by rcases t2 with e|e<;>first|exact e|omega
 have eW:Pl.wBytes x pad pd=frB 4 1 0 []:=by
   unfold Pl.wBytes Pl.wPay Pl.wFl frB
   simp [ht,h1,t1,t4,Pl.wSet]
 rw [eW]
 have EW:=Lib.hid eW
 obtain ⟨c1,e1,hc1,he1⟩:=bitE x.fl 1
 obtain ⟨c4,e4,hc4,he4⟩:=bitE x.fl 4
 have q1:e1=true:=by rw [h1] at hc1;subst hc1;subst he1;decide
 subst q1
 have HA:=Lib.hid fun o n=>(h.alloc o).drewN n
 have HD:=Lib.hid fun o n=>hd.boxed hdK o n
 have HOK:=Lib.hid hok
 unfold frX frameC
 rw [ht]
 skip
 clear hok eW hfl h hd
 go_enter Tryz.func36,Tryz.ntmps36
 go_wp2_with fail
 go_quiet (fail)
 go_wp2_with (go_at_call 70;refine (wAck (HA.out _ _) ho).mono ?_;rintro e w2 hs;obtain ⟨rfl,hs2⟩:=id hs)
 go_ret
 exact Sent.boxed hs
end Go.Proofs.YtfdlbjibninakaaGreatDoor

namespace Go.Proofs.YtfdlbjibninakaaGreatDoor
open Go.RowKit
theorem rep_zero {pad:List Int} (h:∀x∈pad,x=0):List.replicate pad.length 0=pad:=by
 induction pad with
 | nil=>rfl
 | cons a l ih=>rw [List.length_cons,List.replicate_succ,ih fun x hx=>h x (List.mem_cons_of_mem _ hx),h a (List.mem_cons_self ..)]
theorem pad_nil {pad:List Int} {pd:Bool} (hpd:pd=true↔pad.length≠0) (h:pd=false):pad = []:=by
 rcases Nat.eq_zero_or_pos pad.length with e|e
 · exact List.eq_nil_of_length_eq_zero e
 · have:=hpd.2 (by omega);rw [h] at this;cases this
theorem push_bytes {x:Fr} {pad:List Int} {pd e4:Bool} (hpz:∀y∈pad,y=0) (hpd:pd=true↔pad.length≠0) (ht:x.ty=5) (hfe:(if e4 then 4 else 0:Int)=x.fl):Pl.wBytes x pad pd=frB 5 (pFl pad.length e4) x.st (pPay pad.length x.pr x.data):=by
 unfold Pl.wBytes Pl.wPay Pl.wFl frB pFl pPay
 rw [hfe,rep_zero hpz]
 cases hq:pd with
 | false =>
   obtain rfl:=pad_nil hpd hq
   simp [ht,be32_w]
 | true =>
   have h0:=hpd.1 hq
   simp [ht,h0,be32_w,Int.add_comm]
theorem headers_bytes {x:Fr} {pad:List Int} {pd e1 e4:Bool} (hpz:∀y∈pad,y=0) (hpd:pd=true↔pad.length≠0) (ht:x.ty=1) (h1:(if e1 then 1 else 0:Int)=x.fl%2) (h4:(if e4 then 4 else 0:Int)=x.fl-x.fl%2):Pl.wBytes x pad pd=frB 1 (hFl pad.length e1 e4 x.hp) x.st (hPay pad.length x.hp x.dep x.ex x.wt x.data):=by
 unfold Pl.wBytes Pl.wPay Pl.wFl frB hFl hPay
 rw [h1,h4,rep_zero hpz]
 cases hq:pd with
 | false =>
   obtain rfl:=pad_nil hpd hq
   cases x.hp<;>simp [ht,be32_w,Pl.wDep,depN,show x.fl%2+(x.fl-x.fl%2)=x.fl by omega]
 | true =>
   have h0:=hpd.1 hq
   cases x.hp<;>simp [ht,h0,be32_w,Pl.wDep,depN,show 8+x.fl%2+(x.fl-x.fl%2)=x.fl+8 by omega]
end Go.Proofs.YtfdlbjibninakaaGreatDoor

namespace Go.Proofs.YtfdlbjibninakaaGreatDoor
set_option maxRecDepth 10000
set_option maxHeartbeats 1000000
open Go.RowKit
variable {K : Nat → Prop} {w : World} {bF cl bW : Nat} {cur out : List Int} {wb al : Value}
theorem infoHq:(Tryz.prog.info? 172).map (·.size)=some 10:=by kernel_rfl
theorem WS.below {w1:World} (h:WS K w bF cl bW cur out wb al) (hb:Below w.heap.size w w1):WS K w1 bF cl bW cur out wb al:=h.widen (fun _ hk => .inl hk) hb
theorem Sent.after {w1:World} {e:Ending} {w':World} (hs:Sent K w1 bF cl bW out e w') (hk:Kept K w w1):Sent K w bF cl bW out e w':=⟨hs.1,hk.trans hs.2.1,hs.2.2⟩
theorem WS.toKept {w1:World} (h:WS K w bF cl bW cur out wb al) (hb:Below w.heap.size w w1):Kept K w w1:=(Kept.ofBelow hb).mono fun k hk _=>h.lt k hk
theorem Kept.dr {w':World} (h:Kept K w w') (n:Nat):Kept K w (w'.drewN n):=⟨h.os,h.tape,h.output,h.size,h.block⟩
theorem param_fr (x:Fr) (dv sv:Value) (h0:0≤x.wt) (h1:x.wt≤255) (w:World) :
   Calls Tryz.prog 66 #[.agg (frX x dv sv)] w fun e w'=>e = .returned (.agg #[.int .u32 x.dep,.bool x.ex,.int .u8 x.wt,.int .u8 0,.int .u8 0])∧Below w.heap.size w w':=by
 have hw:IntKind.u8.wrap x.wt=x.wt:=wrap_u8 h0 (by omega)
 unfold frX frameC
 go_enter Tryz.func66,Tryz.ntmps66
 go_wp2_with (refine wpList_store_blk rfl 133 _ _ rfl (w.heap.size+1) rfl #[.int .u32 x.dep,.bool x.ex,.int .u8 x.wt,.int .u8 0,.int .u8 0] _ rfl 133 (blk_at _ _ (by simp)) rfl infoPq (by simp [Value.oneCell']) ?_;intro w1 hb1 hk1)
 refine ret_blk rfl (w.heap.size+1) _ _ rfl hb1 Tryz.underlying133 infoPq rfl ⟨rfl,?_⟩
 exact (((Kept.refl (· < w.heap.size) w).alloc _).alloc _).trans (hk1.mono (fun k h _=>by omega)) |>.below (Nat.le_refl _)
theorem iw_priority (h:WS K w bF cl bW cur out wb al) {x:Fr} {dv sv pv:Value} {pad:List Int} {pd:Bool} (hok:Pl.Legal x pad pd) (ho:out.length≤50000000) (ht:x.ty=2) :
   Calls Tryz.prog 36 #[.pointer (some ⟨bF,0,none⟩),.agg (frX x dv sv),pv] w (Sent K w bF cl bW (out++Pl.wBytes x pad pd)):=by
 have htk:=hok.tk
 have hfl:=hok.fl
 have hst:=hok.st
 unfold Pl.tyOk at htk
 unfold Pl.flOk at hfl
 simp [ht] at htk hfl
 have s0:0<x.st:=by omega
 have eW:Pl.wBytes x pad pd=frB 2 0 x.st (be32 (depN x.dep x.ex) ++ [x.wt]):=by
   unfold Pl.wBytes Pl.wPay Pl.wFl frB
   simp [ht,hfl]
   rfl
 rw [eW]
 obtain ⟨c1,e1,hc1,he1⟩:=bitE x.fl 1
 obtain ⟨c4,e4,hc4,he4⟩:=bitE x.fl 4
 have HA:=Lib.hid fun o n=>(h.alloc o).drewN n
 have HOK:=Lib.hid hok
 have PR:=Lib.hid fun w=>param_fr x dv sv hok.wt.1 hok.wt.2 w
 unfold frX frameC at PR ⊢
 rw [ht] at PR ⊢
 clear hok eW hfl h htk
 go_enter Tryz.func36,Tryz.ntmps36
 go_wp2_with fail
 go_quiet (fail)
 go_wp2_with fail
 go_region_with (first
   | (go_at_call 66;refine (PR.out _).mono ?_;rintro e w1 ⟨rfl,b1⟩;have c2:w1.cell? ⟨w.heap.size,2,none⟩=some (.int .u32 x.st):=cell_below (blk_cell (blk_at w _ rfl) 2) b1)
   | (go_at_call 68;(refine (wPriority ((HA.out _ _).below b1) x.st x.dep x.wt x.ex s0 (by omega) HOK.out.dep.1 HOK.out.dep.2 ho).mono ?_);rintro e w2 hs;obtain ⟨rfl,hs2⟩:=id hs))
 all_goals go_wp2
 all_goals go_ret
 all_goals exact Sent.after hs ((((Kept.refl K w).alloc _).dr _).trans ((HA.out _ _).toKept b1))
theorem iw_push (h:WS K w bF cl bW cur out wb al) {x:Fr} {dv sv:Value} {pad:List Int} {pd:Bool} {pa:Option Addr} {pc:Nat} (hok:Pl.Legal x pad pd) (hpd:pd=true↔pad.length≠0) (hd:RdB w dv x.data) (hdK:inK K dv) (ho:out.length≤50000000) (ht:x.ty=5) :
   Calls Tryz.prog 36 #[.pointer (some ⟨bF,0,none⟩),.agg (frX x dv sv),.slice pa pad.length pc] w (Sent K w bF cl bW (out++Pl.wBytes x pad pd)):=by
 obtain ⟨da,dc,rfl,-,-⟩:=id hd
 have htk:=hok.tk
 have hfl:=hok.fl
 have hst:=hok.st
 have hdl:=hok.dl
 have hpl:=hok.pl
 have hpr:=hok.pr
 unfold Pl.tyOk at htk
 unfold Pl.flOk at hfl
 simp [ht] at htk hfl
 obtain ⟨t1,t2⟩:=htk
 have s0:0<x.st:=by omega
 have r0:0<x.pr:=by omega
 obtain ⟨c1,e1,hc1,he1⟩:=bitE x.fl 1
 obtain ⟨c4,e4,hc4,he4⟩:=bitE x.fl 4
 have hfe:(if e4 then 4 else 0:Int)=x.fl:=by rw [bit4 (by omega) hc4 he4];omega
 have eW:=push_bytes hok.pz hpd ht hfe
 rw [eW]
 have hw8:=wrap_u8 (n:=pad.length) (by omega) (by omega)
 have HA:=Lib.hid fun o n=>(h.alloc o).drewN n
 have HD:=Lib.hid fun o n=>hd.boxed hdK o n
 have h255:pad.length≤255:=hpl
 unfold frX frameC
 rw [ht]
 clear hok eW hfl h hpd hd hfe
 go_enter Tryz.func36,Tryz.ntmps36
 go_wp2_with fail
 go_quiet (fail)
 go_wp2_with (go_at_call 72;refine (wPush (HA.out _ _) x.st x.pr s0 hst.2 r0 hpr.2 e4 pad.length h255 ho (HD.out _ _) hdK (by omega)).mono ?_;rintro e w2 hs;obtain ⟨rfl,hs2⟩:=id hs)
 go_ret
 exact Sent.boxed hs
theorem iw_headers (h:WS K w bF cl bW cur out wb al) {x:Fr} {dv sv:Value} {pad:List Int} {pd:Bool} {pa:Option Addr} {pc:Nat} (hok:Pl.Legal x pad pd) (hpd:pd=true↔pad.length≠0) (hd:RdB w dv x.data) (hdK:inK K dv) (ho:out.length≤50000000) (ht:x.ty=1) :
   Calls Tryz.prog 36 #[.pointer (some ⟨bF,0,none⟩),.agg (frX x dv sv),.slice pa pad.length pc] w (Sent K w bF cl bW (out++Pl.wBytes x pad pd)):=by
 obtain ⟨da,dc,rfl,-,-⟩:=id hd
 have htk:=hok.tk
 have hfl:=hok.fl
 have hst:=hok.st
 have hdl:=hok.dl
 have hpl:=hok.pl
 have hdp:=hok.dep
 unfold Pl.tyOk at htk
 unfold Pl.flOk at hfl
 simp [ht] at htk hfl
 have s0:0<x.st:=by omega
 obtain ⟨c1,e1,hc1,he1⟩:=bitE x.fl 1
 obtain ⟨c4,e4,hc4,he4⟩:=bitE x.fl 4
 have hfe1:=bit1 hfl hc1 he1
 have hfe4:=bit4 hfl hc4 he4
 have eW:=headers_bytes hok.pz hpd ht hfe1 hfe4
 rw [eW]
 have hw8:=wrap_u8 (n:=pad.length) (by omega) (by omega)
 have HA:=Lib.hid fun o n=>(h.alloc o).drewN n
 have HD:=Lib.hid fun o n=>hd.boxed hdK o n
 have HL:=Lib.hid h.lt
 have h255:pad.length≤255:=hpl
 have PR:=Lib.hid fun w=>param_fr x (.slice da x.data.length dc) sv hok.wt.1 hok.wt.2 w
 obtain ⟨fc,hfc⟩:∃fc,frX x (.slice da x.data.length dc) sv=fc:=⟨_,rfl⟩
 have hfi:(Tryz.prog.info? 63).map (·.size)=some fc.size:=by rw [←hfc];exact infoFi
 have PRC:Hid (∀w,Calls Tryz.prog 66 #[.agg fc] w fun e w'=>e = .returned (.agg #[.int .u32 x.dep,.bool x.ex,.int .u8 x.wt,.int .u8 0,.int .u8 0])∧Below w.heap.size w w'):=by rw [←hfc];exact PR
 have HFI:=Lib.hid hfi
 have hF0:(w.alloc (.cells fc 63)).heap[w.heap.size]? = some (.cells fc 63 (0,0)):=blk_new w _
 have HF0:=Lib.hid hF0
 have q0:(w.alloc (.cells fc 63)).cell? ⟨w.heap.size,0,none⟩=some (.int .i64 1):=by rw [blk_cell hF0,←hfc,←ht];rfl
 have q1:(w.alloc (.cells fc 63)).cell? ⟨w.heap.size,1,none⟩=some (.int .i64 x.fl):=by rw [blk_cell hF0,←hfc];rfl
 have q2:(w.alloc (.cells fc 63)).cell? ⟨w.heap.size,2,none⟩=some (.int .u32 x.st):=by rw [blk_cell hF0,←hfc];rfl
 have q4:(w.alloc (.cells fc 63)).cell? ⟨w.heap.size,4,none⟩=some (.slice da x.data.length dc):=by rw [blk_cell hF0,←hfc];rfl
 have q9:(w.alloc (.cells fc 63)).cell? ⟨w.heap.size,9,none⟩=some (.bool x.hp):=by rw [blk_cell hF0,←hfc];rfl
 have HCL:=Lib.hid hok.cl
 have HZ0:=Lib.hid hok.hz
 rw [hfc]
 clear hok eW hfl h hpd hd hfe1 hfe4 hF0 PR hfi
 obtain ⟨hp,hhp⟩:∃hp,x.hp=hp:=⟨_,rfl⟩
 rw [hhp] at q9 ⊢
 have HHP:=Lib.hid hhp
 clear hhp
 go_enter Tryz.func36,Tryz.ntmps36
 go_wp2_with fail
 go_quiet (fail)
 cases hp
 · go_wp2_with (first
     | (refine wpList_store_blk rfl 172 _ _ rfl (w.heap.size+1) rfl #[.int .u32 x.st,.slice da x.data.length dc,.bool e1,.bool e4,.int .u8 pad.length,.int .u32 0,.bool false,.int .u8 0,.int .u8 0,.int .u8 0] _ rfl 172 (blk_at _ _ (by simp)) rfl infoHq (by simp [Value.oneCell']) ?_;intro w1 hb1 hk1;have c9:w1.cell? ⟨w.heap.size,9,none⟩=some (.bool false):=hk1.cell (by simp) (cell_alloc (w:=(w.alloc (.cells fc 63)).drewN nq) q9 _);have B1:Below ((w.alloc (.cells fc 63)).drewN nq).heap.size ((w.alloc (.cells fc 63)).drewN nq) w1:=(((Kept.refl _ _).alloc _).trans (hk1.mono fun k h _=>by simp at h;omega)).below (Nat.le_refl _))
     | (refine wpList_load_blk rfl 172 _ rfl (w.heap.size+1) rfl _ 172 hb1 Tryz.underlying172 infoHq ?_)
     | (go_at_call 67;refine (wHeaders ((HA.out _ _).below B1) x.st s0 hst.2 e1 e4 pad.length h255 0 0 false false (by omega) (by omega) (by simp) ho ((HD.out _ _).below B1) hdK (by omega)).mono ?_;rintro e w2 hs;obtain ⟨rfl,hs2⟩:=id hs))
   go_ret
   exact Sent.boxed (Sent.after hs ((HA.out _ _).toKept B1))
 · go_wp2_with (first
     | (refine wpList_store_blk rfl 172 _ _ rfl (w.heap.size+1) rfl #[.int .u32 x.st,.slice da x.data.length dc,.bool e1,.bool e4,.int .u8 pad.length,.int .u32 0,.bool false,.int .u8 0,.int .u8 0,.int .u8 0] _ rfl 172 (blk_at _ _ (by simp)) rfl infoHq (by simp [Value.oneCell']) ?_;intro w1 hb1 hk1;have c9:w1.cell? ⟨w.heap.size,9,none⟩=some (.bool true):=hk1.cell (by simp) (cell_alloc (w:=(w.alloc (.cells fc 63)).drewN nq) q9 _);have B1:Below ((w.alloc (.cells fc 63)).drewN nq).heap.size ((w.alloc (.cells fc 63)).drewN nq) w1:=(((Kept.refl _ _).alloc _).trans (hk1.mono fun k h _=>by simp at h;omega)).below (Nat.le_refl _);have hf1:=Lib.hid (hk1.at (b:=w.heap.size) (by simp) (blk_alloc (w:=(w.alloc (.cells fc 63)).drewN nq) HF0.out)))
     | (refine wpList_load_blk rfl 63 _ rfl w.heap.size rfl fc 63 hf1.out Tryz.underlying63 HFI.out ?_)
     | (go_at_call 66;refine (PRC.out _).mono ?_;rintro e w2 ⟨rfl,b2⟩;have hb2:=blk_below hb1 b2)
     | (refine wpList_store_at rfl 133 _ _ rfl (w.heap.size+1) 5 rfl #[.int .u32 x.dep,.bool x.ex,.int .u8 x.wt,.int .u8 0,.int .u8 0] #[.int .u32 x.st,.slice da x.data.length dc,.bool e1,.bool e4,.int .u8 pad.length,.int .u32 0,.bool false,.int .u8 0,.int .u8 0,.int .u8 0] rfl 172 hb2 (by simp) infoPq (by simp [Value.oneCell']) ?_;intro w3 hb3 hk3;have hb4:w3.heap[w.heap.size+1]? = some (.cells #[.int .u32 x.st,.slice da x.data.length dc,.bool e1,.bool e4,.int .u8 pad.length,.int .u32 x.dep,.bool x.ex,.int .u8 x.wt,.int .u8 0,.int .u8 0] 172 (0,0)):=hb3;have B3:Below ((w.alloc (.cells fc 63)).drewN nq).heap.size ((w.alloc (.cells fc 63)).drewN nq) w3:=((Kept.ofBelow (Below.then B1 (Nat.le_refl _) b2)).trans (hk3.mono fun k h _=>by simp at h;omega)).below (Nat.le_refl _))
     | (refine wpList_load_blk rfl 172 _ rfl (w.heap.size+1) rfl _ 172 hb4 Tryz.underlying172 infoHq ?_)
     | (go_at_call 67;go_loud (refine (wHeaders ((HA.out _ _).below B3) x.st s0 hst.2 e1 e4 pad.length h255 x.dep x.wt x.ex true hdp.1 hdp.2 ⟨(fun h=>(by cases h)),(fun h=>absurd h (HZ0.out HHP.out))⟩ ho ((HD.out _ _).below B3) hdK (by omega)).mono ?_);rintro e w4 hs;obtain ⟨rfl,hs2⟩:=id hs))
   go_ret
   exact Sent.boxed (Sent.after hs ((HA.out _ _).toKept B3))
end Go.Proofs.YtfdlbjibninakaaGreatDoor

namespace Go.Proofs.YtfdlbjibninakaaGreatDoor
set_option maxRecDepth 10000
set_option maxHeartbeats 2000000
open Go.RowKit
variable {K : Nat → Prop} {w : World} {bF cl bW : Nat} {cur out : List Int} {wb al : Value}
theorem list8 {l:List Int} (h:l.length=8):∃d0 d1 d2 d3 d4 d5 d6 d7,l = [d0,d1,d2,d3,d4,d5,d6,d7]:=by
 match l,h with
 | [a,b,c,d,e,f,g,i],_=>exact ⟨a,b,c,d,e,f,g,i,rfl⟩
abbrev Z8:Array Value:=#[.int .u8 0,.int .u8 0,.int .u8 0,.int .u8 0,.int .u8 0,.int .u8 0,.int .u8 0,.int .u8 0]
theorem filled8 {d0 d1 d2 d3 d4 d5 d6 d7:Int} {cs:Array Value} (h:Filled Z8 0 [d0,d1,d2,d3,d4,d5,d6,d7] cs):cs = #[.int .u8 d0,.int .u8 d1,.int .u8 d2,.int .u8 d3,.int .u8 d4,.int .u8 d5,.int .u8 d6,.int .u8 d7]:=by
 have hs:cs.size=8:=h.size
 apply Array.ext_getElem?
 intro i
 match i with
 | 0=>simpa using h.at' 0 d0 rfl
 | 1=>simpa using h.at' 1 d1 rfl
 | 2=>simpa using h.at' 2 d2 rfl
 | 3=>simpa using h.at' 3 d3 rfl
 | 4=>simpa using h.at' 4 d4 rfl
 | 5=>simpa using h.at' 5 d5 rfl
 | 6=>simpa using h.at' 6 d6 rfl
 | 7=>simpa using h.at' 7 d7 rfl
 | i+8=>rw [Array.getElem?_eq_none (by omega)];simp
theorem iw_ping (h:WS K w bF cl bW cur out wb al) {x:Fr} {dv sv pv:Value} {pad:List Int} {pd:Bool} (hok:Pl.Legal x pad pd) (hd:RdB w dv x.data) (hdK:inK K dv) (ho:out.length≤50000000) (ht:x.ty=6) :
   Calls Tryz.prog 36 #[.pointer (some ⟨bF,0,none⟩),.agg (frX x dv sv),pv] w (Sent K w bF cl bW (out++Pl.wBytes x pad pd)):=by
 obtain ⟨da,dc,rfl,-,-⟩:=id hd
 have htk:=hok.tk
 have hfl:=hok.fl
 unfold Pl.tyOk at htk
 unfold Pl.flOk at hfl
 simp [ht] at htk hfl
 obtain ⟨t1,t2⟩:=htk
 obtain ⟨c1,e1,hc1,he1⟩:=bitE x.fl 1
 obtain ⟨c4,e4,hc4,he4⟩:=bitE x.fl 4
 have hfe:(if e1 then 1 else 0:Int)=x.fl:=by rw [bit1 (by omega) hc1 he1];omega
 obtain ⟨d0,d1,d2,d3,d4,d5,d6,d7,hdata⟩:=list8 t2
 have eW:Pl.wBytes x pad pd=frB 6 x.fl 0 [d0,d1,d2,d3,d4,d5,d6,d7]:=by
   unfold Pl.wBytes Pl.wPay Pl.wFl frB
   simp [ht,t1,hdata]
 rw [eW]
 rw [t2] at hdK ⊢
 rw [t2,hdata] at hd
 have HFE:=Lib.hid hfe
 have HA:=Lib.hid fun o n=>(h.alloc o).drewN n
 have HD:=Lib.hid fun o n=>hd.boxed hdK o n
 have HT:=Lib.hid t2
 unfold frX frameC
 rw [ht]
 clear hok eW hfl h hd hfe t1 t2 hdata
 go_enter Tryz.func36,Tryz.ntmps36
 go_wp2_with fail
 go_quiet (fail)
 go_wp2_with fail
 have hrd:RdB (((w.alloc (.cells #[.int .i64 6,.int .i64 x.fl,.int .u32 x.st,.int .i64 x.ln,.slice da 8 dc,.int .u32 x.pr,.int .u32 x.la,.int .u32 x.co,.int .u32 x.inc,.bool x.hp,.bool x.ex,.int .u32 x.dep,.int .i64 x.wt,sv] 63)).drewN nq).alloc (.cells Z8 153)).drew (.slice da 8 dc) [d0,d1,d2,d3,d4,d5,d6,d7]:=(HD.out _ nq).below (((Kept.refl _ _).alloc _).drew.below (Nat.le_refl _))
 have hg:(((w.alloc (.cells #[.int .i64 6,.int .i64 x.fl,.int .u32 x.st,.int .i64 x.ln,.slice da 8 dc,.int .u32 x.pr,.int .u32 x.la,.int .u32 x.co,.int .u32 x.inc,.bool x.hp,.bool x.ex,.int .u32 x.dep,.int .i64 x.wt,sv] 63)).drewN nq).alloc (.cells Z8 153)).drew.heap[w.heap.size+1]? = some (.cells Z8 153 (0,0)):=blk_at _ _ (by simp)
 go_region_law (go_loud (refine step_copy_rd rfl (.tmp 121) (.tmp 123) rfl (w.heap.size+1) 0 8 8 8 [d0,d1,d2,d3,d4,d5,d6,d7] Z8 153 rfl hrd hg rfl (by simp) ?_);intro cs' w1 g1 g2 g3)
 obtain rfl:=filled8 g2
 have p0:=blk_cell g1 0
 have p1:=blk_cell g1 1
 have p2:=blk_cell g1 2
 have p3:=blk_cell g1 3
 have p4:=blk_cell g1 4
 have p5:=blk_cell g1 5
 have p6:=blk_cell g1 6
 have p7:=blk_cell g1 7
 have B1:Below ((w.alloc (.cells #[.int .i64 6,.int .i64 x.fl,.int .u32 x.st,.int .i64 x.ln,.slice da 8 dc,.int .u32 x.pr,.int .u32 x.la,.int .u32 x.co,.int .u32 x.inc,.bool x.hp,.bool x.ex,.int .u32 x.dep,.int .i64 x.wt,sv] 63)).drewN nq).heap.size ((w.alloc (.cells #[.int .i64 6,.int .i64 x.fl,.int .u32 x.st,.int .i64 x.ln,.slice da 8 dc,.int .u32 x.pr,.int .u32 x.la,.int .u32 x.co,.int .u32 x.inc,.bool x.hp,.bool x.ex,.int .u32 x.dep,.int .i64 x.wt,sv] 63)).drewN nq) w1:=((((Kept.refl _ _).alloc _).drew).trans (g3.mono fun k h _=>by simp at h;omega)).below (Nat.le_refl _)
 have HB1:=Lib.hid B1
 clear g1 g2 g3 B1
 go_wp2_with (go_at_call 73;go_loud (refine (wPing ((HA.out _ _).below HB1.out) e1 d0 d1 d2 d3 d4 d5 d6 d7 ho).mono ?_);rintro e w2 hs;obtain ⟨rfl,hs2⟩:=id hs)
 go_ret
 rw [HFE.out] at hs
 exact Sent.boxed (Sent.after hs ((HA.out _ _).toKept HB1.out))
theorem EHs:Elem Tryz.prog 178 147 2 8 (.agg #[.int .u16 0,.int .u32 0]):=⟨Tryz.underlying178,by kernel_rfl,rfl,by decide⟩
theorem infoSi2:(Tryz.prog.info? 110).map (·.size)=some 2:=by kernel_rfl
theorem Sent.narrow {K':Nat→Prop} {e:Ending} {w':World} (hs:Sent K' w bF cl bW out e w') (hk:∀k,K k→K' k):Sent K w bF cl bW out e w':=by
 obtain ⟨he,h1,c,wb,al,h2⟩:=hs
 exact ⟨he,h1.mono fun k h _=>hk k h,c,wb,al,h2.narrow hk⟩
theorem prH_take (l:List (Int × Int)) (k:Nat) (h:k<l.length):prH (l.take (k+1))=prH (l.take k) ++ [.int .u16 l[k].1,.int .u32 l[k].2]:=by
 rw [List.take_succ_eq_append_getElem h,prH_app]
 rfl
theorem iw_settings (h:WS K w bF cl bW cur out wb al) {x:Fr} {dv sv pv:Value} {pad:List Int} {pd:Bool} (hok:Pl.Legal x pad pd) (hs:RdP w sv x.set) (hsK:inK K sv) (ho:out.length≤50000000) (ht:x.ty=4) (hf:x.fl=0) :
   Calls Tryz.prog 36 #[.pointer (some ⟨bF,0,none⟩),.agg (frX x dv sv),pv] w (Sent K w bF cl bW (out++Pl.wBytes x pad pd)):=by
 obtain ⟨sa,sc,rfl,hsc,hsm,-⟩:=id hs
 have htk:=hok.tk
 unfold Pl.tyOk at htk
 simp [ht] at htk
 obtain ⟨t1,-,t3⟩:=htk
 have a1:bits .and .i64 0 1=0:=by decide
 have a4:bits .and .i64 0 4=0:=by decide
 have eW:Pl.wBytes x pad pd=frB 4 0 0 (Pl.wSet x.set):=by
   unfold Pl.wBytes Pl.wPay Pl.wFl frB
   simp [ht,t1,hf]
 rw [eW]
 have HA:=Lib.hid fun o n=>(h.alloc o).drewN n
 have HS0:=Lib.hid hs
 have HB:=Lib.hid hok.set
 unfold frX frameC
 rw [ht,hf]
 clear hok eW h hs t1
 go_enter Tryz.func36,Tryz.ntmps36
 go_wp2_with fail
 go_quiet (fail)
 go_wp2_with fail
 obtain ⟨W1,hW1⟩:∃W1,(w.alloc (.cells #[.int .i64 4,.int .i64 0,.int .u32 x.st,.int .i64 x.ln,dv,.int .u32 x.pr,.int .u32 x.la,.int .u32 x.co,.int .u32 x.inc,.bool x.hp,.bool x.ex,.int .u32 x.dep,.int .i64 x.wt,.slice sa x.set.length sc] 63)).drewN nq=W1:=⟨_,rfl⟩
 have hA1:=HA.out (.cells #[.int .i64 4,.int .i64 0,.int .u32 x.st,.int .i64 x.ln,dv,.int .u32 x.pr,.int .u32 x.la,.int .u32 x.co,.int .u32 x.inc,.bool x.hp,.bool x.ex,.int .u32 x.dep,.int .i64 x.wt,.slice sa x.set.length sc] 63) nq
 have hS1:RdP W1 (.slice sa x.set.length sc) x.set:=by rw [←hW1];exact HS0.out.below ((((Kept.refl (· < w.heap.size) w).alloc _).dr nq).below (Nat.le_refl _))
 have k01:Kept K w W1:=by rw [←hW1];exact ((Kept.refl K w).alloc _).dr _
 rw [hW1] at hA1 ⊢
 have HA1:=Lib.hid hA1
 have HS1:=Lib.hid hS1
 have K01:=Lib.hid k01
 clear hW1 hA1 hS1 k01 HS0 HA
 go_loopw [10,87] (fun l i wr => ∃k:Nat,k≤x.set.length∧i = .int .i64 k∧Row wr 147 2 l k (prH (x.set.take k))∧Fresh W1.heap.size l∧Below W1.heap.size W1 wr) (fun _ i _=>x.set.length-(intOf i).toNat)
 case atStart=>exact ⟨0,Nat.zero_le _,rfl,World.ownsRow_nil _ _ _ _,Fresh.nil _,Below.refl _ _⟩
 case round =>
   obtain ⟨k,hk,rfl,hrow,hfr,hbel⟩:=hrel
   obtain ⟨va,vc,rfl,hvc,hvm⟩:=own_shape hrow
   by_cases hlt:k<x.set.length
   · obtain ⟨_,_,e,-,-,hq⟩:=HS1.out.below hbel
     cases e
     obtain ⟨b,o,rfl,u1,u2⟩:=hq k _ (List.getElem?_eq_getElem hlt)
     obtain ⟨b0,b1,b2,b3,-⟩:=HB.out _ (List.getElem_mem hlt)
     have hsn:=prH_take x.set k hlt
     have HSN:=Lib.hid hsn
     have HR:=Lib.hid hrow
     have HBL:=Lib.hid hbel
     have HFR:=Lib.hid hfr
     clear hq hsn hrow hbel hfr
     generalize x.set[k].1=id at *
     generalize x.set[k].2=vl at *
     have hw:IntKind.u16.wrap id=id:=by simp [IntKind.wrap,IntKind.bits,IntKind.signed,show (2:Int) ^ 16=65536 from by decide];omega
     go_wp2_with (first
       | (refine wpList_load_at rfl 110 _ rfl b _ rfl #[.int .i64 id,.int .u32 vl] (two_at u1 u2 (by simp;omega)) Tryz.underlying110 infoSi2 ?_)
       | (at_builtin;go_loud (refine wpList_app EHs rfl _ _ rfl (.slice va k vc) k _ rfl (own_alloc (own_alloc HR.out _) _) 1 _ (src_of_block Tryz.underlying178 (blk_at _ _ (by simp)) rfl (by simp [Value.oneCell'])) (by omega) (by unfold maxLen;omega) ?_);intro a' c' w2 hown2 hgrow hat))
     go_roundw
     case rel=>exact ⟨k+1,by omega,by go_num,by rw [HSN.out];exact hown2,HFR.out.app (by have:=HBL.out.size;simp;omega) hat,Below.app ((HBL.out.alloc HBL.out.size _).alloc (by have:=HBL.out.size;simp;omega) _) (by have:=HBL.out.size;simp;omega) hgrow HFR.out⟩
     case measure=>simp [intOf];omega
   · obtain rfl:k=x.set.length:=by omega
     rw [List.take_length] at hrow
     have hws:=HA1.out.widen (K':=fun j=>K j∨(Value.slice va x.set.length vc).ownBlock=some j) (fun j hj=>hj.imp id fun e=>⟨hfr j e,own_lt hrow j e⟩) hbel
     have HWS:=Lib.hid hws
     have HR:=Lib.hid hrow
     have HB2:=Lib.hid (show ∀p∈x.set,0≤p.1∧p.1<65536∧0≤p.2∧p.2<4294967296 from fun p hp=>⟨(HB.out p hp).1,(HB.out p hp).2.1,(HB.out p hp).2.2.1,(HB.out p hp).2.2.2.1⟩)
     have HBL:=Lib.hid hbel
     clear hws hrow hbel hfr
     go_wp2_with (go_at_call 71;go_loud (refine (wSettings HWS.out HR.out (fun g hg => .inr hg) (by omega) HB2.out ho).mono ?_);rintro e w2 hs;obtain ⟨rfl,hs2⟩:=id hs)
     go_ret
     exact Sent.after (Sent.narrow hs fun k hk => .inl hk) (K01.out.trans (HA1.out.toKept HBL.out))
end Go.Proofs.YtfdlbjibninakaaGreatDoor

namespace Go.Proofs.YtfdlbjibninakaaGreatDoor
open Go.RowKit
variable {K : Nat → Prop} {w : World} {bF cl bW : Nat} {cur out : List Int} {wb al : Value}
theorem padV_slice {pv:Value} {p:Option (List Int)} (hp:PadV w pv p):∃pa pc,pv = .slice pa (p.getD []).length pc:=by
 cases p with
 | none=>exact ⟨none,0,hp⟩
 | some l =>
   obtain ⟨-,⟨a,c,e,-⟩,-⟩:=hp
   exact ⟨a,c,e⟩
theorem pdOf_iff {x:Fr} {p:Option (List Int)} (h:x.ty=1∨x.ty=5):Pl.pdOf x p=true↔(p.getD []).length≠0:=by
 unfold Pl.pdOf
 cases p with
 | none=>simp
 | some l =>
   by_cases h0:l = []
   · simp [h,h0]
   · simp [h0]
theorem iwrite_any (h:WS K w bF cl bW cur out wb al) {x:Fr} {dv sv pv:Value} {p:Option (List Int)} (hok:Pl.Legal x (p.getD []) p.isSome) (hd:RdB w dv x.data) (hdK:inK K dv) (hs:RdP w sv x.set) (hsK:inK K sv) (hp:PadV w pv p) (hpK:inK K pv) (ho:out.length≤50000000) :
   Calls Tryz.prog 36 #[.pointer (some ⟨bF,0,none⟩),.agg (frX x dv sv),pv] w (Sent K w bF cl bW (out++Pl.wBytes x (p.getD []) (Pl.pdOf x p))):=by
 have hok':=hok.strip
 by_cases h0:x.ty=0
 · have e:Pl.pdOf x p=p.isSome:=by unfold Pl.pdOf;rw [if_neg (by rw [h0];simp)]
   rw [e] at hok' ⊢
   cases p with
   | none =>
     obtain rfl:pv = .slice none 0 0:=hp
     exact iw_data h hok' hd hdK ho h0 rfl
   | some l =>
     obtain ⟨⟨a,n,c,rfl⟩,hr,-⟩:=hp
     obtain ⟨a',c',e',-⟩:=id hr
     cases e'
     exact iw_dataP h hok' hd hdK ho h0 rfl hr hpK
 by_cases h1:x.ty=1
 · obtain ⟨pa,pc,rfl⟩:=padV_slice hp
   exact iw_headers h hok' (pdOf_iff (.inl h1)) hd hdK ho h1
 by_cases h5:x.ty=5
 · obtain ⟨pa,pc,rfl⟩:=padV_slice hp
   exact iw_push h hok' (pdOf_iff (.inr h5)) hd hdK ho h5
 by_cases h2:x.ty=2
 · exact iw_priority h hok' ho h2
 by_cases h3:x.ty=3
 · exact iw_rst h hok' hd hdK ho h3
 by_cases h4:x.ty=4
 · have hfl:=hok'.fl
   unfold Pl.flOk at hfl
   simp [h4] at hfl
   rcases hfl with hf|hf
   · exact iw_settings h hok' hs hsK ho h4 hf
   · exact iw_ack h hok' hd hdK ho h4 hf
 by_cases h6:x.ty=6
 · exact iw_ping h hok' hd hdK ho h6
 by_cases h7:x.ty=7
 · exact iw_goaway h hok' hd hdK ho h7
 by_cases h8:x.ty=8
 · exact iw_window h hok' hd hdK ho h8
 by_cases h9:x.ty=9
 · exact iw_cont h hok' hd hdK ho h9
 by_cases h16:x.ty=16
 · exact iw_update h hok' hd hdK ho h16
 · exact iw_raw h hok' hd hdK ho ⟨by have:=hok'.ty;omega,h16⟩
end Go.Proofs.YtfdlbjibninakaaGreatDoor

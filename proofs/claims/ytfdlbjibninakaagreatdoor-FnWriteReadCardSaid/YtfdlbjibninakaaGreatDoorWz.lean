/- Arguments of the laws that lie deep, opened: slices of settings, of frames, of slices of bytes. -/
import Derived.Test.YtfdlbjibninakaaGreatDoorMl2
import Derived.Test.YtfdlbjibninakaaGreatDoorCf
import Derived.Deep.SlicePairs
import Derived.OpenShut
set_option linter.unusedVariables false
set_option linter.unusedSimpArgs false
namespace Go.Proofs.YtfdlbjibninakaaGreatDoor.Pl
def w16 (v:Int):List Int:=[v / 256,v%256]
def w32 (v:Int):List Int:=[v / 16777216,v / 65536%256,v / 256%256,v%256]
def wSet:List (Int × Int)→List Int
 | [] => []
 | p::l=>w16 p.1++w32 p.2++wSet l
def wDep (f:Fr):List Int:=w32 (f.dep+if f.ex then 2147483648 else 0) ++ [f.wt]
def wPay (f:Fr) (pad:List Int) (pd:Bool):List Int:=
 if f.ty=0∨f.ty=1∨f.ty=5 then
   (if pd then [(pad.length:Int)] else [])++((if f.ty=5 then w32 f.pr else [])++((if f.ty=1∧f.hp=true then wDep f else [])++(f.data++(if pd then pad else []))))
 else if f.ty=2 then wDep f
 else if f.ty=3 then w32 f.co
 else if f.ty=4 then wSet f.set
 else if f.ty=7 then w32 f.la++(w32 f.co++f.data)
 else if f.ty=8 then w32 f.inc
 else if f.ty=16 then w32 f.pr++f.data
 else f.data
def wFl (f:Fr) (pd:Bool):Int:=
 if f.ty=0∨f.ty=1∨f.ty=5 then f.fl+(if pd then 8 else 0)+(if f.ty=1∧f.hp=true then 32 else 0) else f.fl
def wHd (ln ty fl st:Int):List Int:=[ln / 65536%256,ln / 256%256,ln%256,ty,fl]++w32 st
def wBytes (f:Fr) (pad:List Int) (pd:Bool):List Int:=wHd (wPay f pad pd).length f.ty (wFl f pd) f.st++wPay f pad pd
def whole (f:Fr) (pad:List Int) (pd:Bool):Fr:={ f with ln:=(wPay f pad pd).length,fl:=wFl f pd }
def cleanF (f:Fr):Fr:=
 if f.ty=1 then (if f.hp=true then { Fr.zero with ty:=f.ty,fl:=f.fl,st:=f.st,ln:=f.ln,data:=f.data,hp:=true,ex:=f.ex,dep:=f.dep,wt:=f.wt } else { Fr.zero with ty:=f.ty,fl:=f.fl,st:=f.st,ln:=f.ln,data:=f.data })
 else if f.ty=2 then { Fr.zero with ty:=f.ty,fl:=f.fl,st:=f.st,ln:=f.ln,ex:=f.ex,dep:=f.dep,wt:=f.wt }
 else if f.ty=3 then { Fr.zero with ty:=f.ty,fl:=f.fl,st:=f.st,ln:=f.ln,co:=f.co }
 else if f.ty=4 then { Fr.zero with ty:=f.ty,fl:=f.fl,st:=f.st,ln:=f.ln,set:=f.set }
 else if f.ty=5 then { Fr.zero with ty:=f.ty,fl:=f.fl,st:=f.st,ln:=f.ln,data:=f.data,pr:=f.pr }
 else if f.ty=7 then { Fr.zero with ty:=f.ty,fl:=f.fl,st:=f.st,ln:=f.ln,data:=f.data,la:=f.la,co:=f.co }
 else if f.ty=8 then { Fr.zero with ty:=f.ty,fl:=f.fl,st:=f.st,ln:=f.ln,inc:=f.inc }
 else if f.ty=16 then { Fr.zero with ty:=f.ty,fl:=f.fl,st:=f.st,ln:=f.ln,data:=f.data,pr:=f.pr }
 else { Fr.zero with ty:=f.ty,fl:=f.fl,st:=f.st,ln:=f.ln,data:=f.data }
def flOk (ty fl:Int):Prop:=
 if ty=0 then fl=0∨fl=1 else if ty=1 then fl=0∨fl=1∨fl=4∨fl=5 else if ty=5∨ty=9 then fl=0∨fl=4 else if ty=4∨ty=6 then fl=0∨fl=1
 else if ty=2∨ty=3∨ty=7∨ty=8∨ty=16 then fl=0 else 0≤fl∧fl<256
def tyOk (f:Fr):Prop:=
 if f.ty=0∨f.ty=1∨f.ty=2∨f.ty=3∨f.ty=9 then f.st≠0
 else if f.ty=5 then f.st≠0∧f.pr≠0
 else if f.ty=4 then f.st=0∧(f.fl=0∨f.set = [])∧f.set.length<1000
 else if f.ty=6 then f.st=0∧f.data.length=8
 else if f.ty=7 then f.st=0
 else if f.ty=8 then 0<f.inc∧f.inc≤2147483647
 else if f.ty=16 then f.st=0∧f.pr≠0
 else True
structure Legal (f:Fr) (pad:List Int) (pd:Bool):Prop where
 ty:0≤f.ty∧f.ty<256
 fl:flOk f.ty f.fl
 st:0≤f.st∧f.st≤2147483647
 dl:f.data.length≤16084
 db:Byt f.data
 ln:f.ln=0
 wt:0≤f.wt∧f.wt≤255
 pl:pad.length≤255
 pz:∀x∈pad,x=0
 pt:pd=true→f.ty=0∨f.ty=1∨f.ty=5
 pn:pd=false→pad = []
 dep:0≤f.dep∧f.dep≤2147483647
 pr:0≤f.pr∧f.pr≤2147483647
 la:0≤f.la∧f.la≤2147483647
 co:0≤f.co∧f.co<4294967296
 ic:0≤f.inc∧f.inc<4294967296
 set:∀p∈f.set,0≤p.1∧p.1<65536∧0≤p.2∧p.2<4294967296∧(p.1=4→p.2≤2147483647)
 cl:f=cleanF f
 tk:tyOk f
 hz:f.hp=true → ¬(f.dep=0∧f.ex=false∧f.wt=0)
 hd:(f.ty=2∨f.hp=true)→f.dep≠f.st
theorem n32_w {v:Int} (_h0:0≤v) (_h1:v<4294967296) (b:List Int):n32 (w32 v++b) 0=v:=by
 simp only [n32,w32,gb,List.cons_append,List.nil_append,List.getD_cons_zero,List.getD_cons_succ]
 omega
theorem n16_w {v:Int} (b:List Int):n16 (w16 v++b) 0=v:=by
 simp only [n16,w16,gb,List.cons_append,List.nil_append,List.getD_cons_zero,List.getD_cons_succ]
 omega
theorem n31_w {v:Int} (h0:0≤v) (h1:v<2147483648) (b:List Int):n31 (w32 v++b) 0=v:=by
 unfold n31
 rw [n32_w h0 (by omega)]
 omega
theorem n32_w0 {v:Int} (h0:0≤v) (h1:v<4294967296):n32 (w32 v) 0=v:=by have:=n32_w h0 h1 [];simpa using this
theorem n31_w0 {v:Int} (h0:0≤v) (h1:v<2147483648):n31 (w32 v) 0=v:=by have:=n31_w h0 h1 [];simpa using this
theorem hdOf_w (ln ty fl st:Int) (_h0:0≤ln) (_h1:ln<16777216) (h2:0≤st) (h3:st<2147483648) (b:List Int):hdOf (wHd ln ty fl st++b)=⟨ty,fl,ln,st⟩:=by
 have e:n31 (wHd ln ty fl st++b) 5=st:=by
   simp only [n31,n32,wHd,w32,gb,List.cons_append,List.nil_append,List.getD_cons_zero,List.getD_cons_succ]
   omega
 have e2:gb (wHd ln ty fl st++b) 0*65536+gb (wHd ln ty fl st++b) 1*256+gb (wHd ln ty fl st++b) 2=ln:=by
   simp only [wHd,w32,gb,List.cons_append,List.nil_append,List.getD_cons_zero,List.getD_cons_succ]
   omega
 unfold hdOf
 rw [e,e2]
 rfl
theorem wSet_len (l:List (Int × Int)):(wSet l).length=l.length*6:=by
 induction l with
 | nil=>rfl
 | cons p l ih=>simp only [wSet,List.length_append,ih,w16,w32,List.length_cons,List.length_nil];omega
theorem pairs_wSet (l:List (Int × Int)) (h:∀p∈l,0≤p.1∧p.1<65536∧0≤p.2∧p.2<4294967296):pairs l.length (wSet l)=l:=by
 induction l with
 | nil=>rfl
 | cons p l ih =>
   have hp:=h p (List.mem_cons_self ..)
   have e1:n16 (w16 p.1++w32 p.2++wSet l) 0=p.1:=by rw [List.append_assoc];exact n16_w _
   have e2:n32 (w16 p.1++w32 p.2++wSet l) 2=p.2:=by
     have:=n32_w hp.2.2.1 hp.2.2.2 (wSet l)
     simpa [n32,w16,gb] using this
   have e3:(w16 p.1++w32 p.2++wSet l).drop 6=wSet l:=rfl
   show (n16 (w16 p.1++w32 p.2++wSet l) 0,n32 (w16 p.1++w32 p.2++wSet l) 2)::pairs l.length ((w16 p.1++w32 p.2++wSet l).drop 6)=p::l
   rw [e1,e2,e3,ih fun q hq=>h q (List.mem_cons_of_mem _ hq)]
theorem firstOf_le (l:List (Int × Int)) (h:∀p∈l,p.1=4→p.2≤2147483647):¬2147483647<firstOf 4 l:=by
 unfold firstOf
 cases hf:l.find? (fun p=>p.1==4) with
 | none=>simp
 | some p =>
   have h1:=List.mem_of_find?_eq_some hf
   have h2:=List.find?_some hf
   have:=h p h1 (by simpa using h2)
   simp
   omega
section
variable {f : Fr} {pad : List Int} {pd : Bool}
theorem take_pad (d pad:List Int):(d++pad).take ((d++pad).length-((pad.length:Nat):Int).toNat)=d:=by
 rw [List.length_append,Int.toNat_natCast,Nat.add_sub_cancel,List.take_left]
theorem whole_clean (h:Legal f pad pd):whole f pad pd = { cleanF f with ln:=(wPay f pad pd).length,fl:=wFl f pd }:=by
 unfold whole
 rw [←h.cl]
theorem parse_w0 (h:Legal f pad pd) (h0:f.ty=0):parseData ⟨f.ty,wFl f pd,(wPay f pad pd).length,f.st⟩ (wPay f pad pd) = .ok (whole f pad pd):=by
 have hst:=h.tk
 simp [tyOk,h0] at hst
 have hfl:=h.fl
 simp [flOk,h0] at hfl
 rw [whole_clean h]
 unfold parseData
 simp only [hst,if_false]
 cases pd with
 | false =>
   have hp:=h.pn rfl
   subst hp
   have e1:wFl f false=f.fl:=by simp [wFl,h0]
   have e2:wPay f [] false=f.data:=by simp [wPay,h0]
   have e3:bitOf f.fl 8=false:=by rcases hfl with e|e<;>rw [e]<;>rfl
   rw [e1,e2,e3]
   simp [cleanF,h0,Fr.of]
 | true =>
   have e1:wFl f true=f.fl+8:=by simp [wFl,h0]
   have e2:wPay f pad true=(pad.length:Int)::(f.data++pad):=by simp [wPay,h0]
   have e3:bitOf (f.fl+8) 8=true:=by rcases hfl with e|e<;>rw [e]<;>rfl
   rw [e1,e2,e3]
   simp only [if_true]
   rw [if_neg (by simp;omega),take_pad]
   simp [cleanF,h0,Fr.of]
theorem parse_w9 (h:Legal f pad pd) (h0:f.ty=9):parseCont ⟨f.ty,wFl f pd,(wPay f pad pd).length,f.st⟩ (wPay f pad pd) = .ok (whole f pad pd):=by
 have hst:=h.tk
 simp [tyOk,h0] at hst
 rw [whole_clean h]
 unfold parseCont
 simp only [hst,if_false]
 simp [cleanF,wPay,wFl,h0,Fr.of]
theorem parse_w2 (h:Legal f pad pd) (h0:f.ty=2):parsePriority ⟨f.ty,wFl f pd,(wPay f pad pd).length,f.st⟩ (wPay f pad pd) = .ok (whole f pad pd):=by
 have hst:=h.tk
 simp [tyOk,h0] at hst
 have hd:=h.dep
 have hw:=h.wt
 rw [whole_clean h]
 have e2:wPay f pad pd=wDep f:=by simp [wPay,h0]
 have e3:n32 (wDep f) 0=f.dep+if f.ex then 2147483648 else 0:=by unfold wDep;exact n32_w (by split<;>omega) (by split<;>omega) _
 have e4:n31 (wDep f) 0=f.dep:=by unfold n31;rw [e3];split<;>omega
 have e5:gb (wDep f) 4=f.wt:=rfl
 have e6:decide (2147483648≤f.dep+if f.ex then 2147483648 else 0)=f.ex:=by cases f.ex<;>simp<;>omega
 unfold parsePriority
 rw [e2,e3,e4,e5,e6]
 simp only [hst,if_false]
 rw [if_neg (by simp [wDep,w32])]
 simp [cleanF,wFl,h0,Fr.of]
theorem parse_w3 (h:Legal f pad pd) (h0:f.ty=3):parseRst ⟨f.ty,wFl f pd,(wPay f pad pd).length,f.st⟩ (wPay f pad pd) = .ok (whole f pad pd):=by
 have hst:=h.tk
 simp [tyOk,h0] at hst
 rw [whole_clean h]
 have e2:wPay f pad pd=w32 f.co:=by simp [wPay,h0]
 unfold parseRst
 rw [e2,n32_w0 h.co.1 h.co.2]
 simp only [hst,if_false]
 rw [if_neg (by simp [w32])]
 simp [cleanF,wFl,h0,Fr.of]
theorem parse_w4 (h:Legal f pad pd) (h0:f.ty=4):parseSettings ⟨f.ty,wFl f pd,(wPay f pad pd).length,f.st⟩ (wPay f pad pd) = .ok (whole f pad pd):=by
 have ht:=h.tk
 simp [tyOk,h0] at ht
 rw [whole_clean h]
 have e2:wPay f pad pd=wSet f.set:=by simp [wPay,h0]
 have e1:wFl f pd=f.fl:=by simp [wFl,h0]
 have el:=wSet_len f.set
 unfold parseSettings
 rw [e2,e1]
 rw [if_neg (by
   rintro ⟨hb,hl⟩
   rcases ht.2.1 with e|e
   · rw [e] at hb;cases hb
   · rw [e] at hl;cases hl)]
 rw [if_neg (by simp [ht.1]),if_neg (by omega)]
 have e3:(wSet f.set).length / 6=f.set.length:=by omega
 rw [e3,pairs_wSet _ fun p hp=>⟨(h.set p hp).1,(h.set p hp).2.1,(h.set p hp).2.2.1,(h.set p hp).2.2.2.1⟩,if_neg (firstOf_le _ fun p hp=>(h.set p hp).2.2.2.2)]
 simp [cleanF,h0,Fr.of]
theorem parse_w6 (h:Legal f pad pd) (h0:f.ty=6):parsePing ⟨f.ty,wFl f pd,(wPay f pad pd).length,f.st⟩ (wPay f pad pd) = .ok (whole f pad pd):=by
 have ht:=h.tk
 simp [tyOk,h0] at ht
 rw [whole_clean h]
 have e2:wPay f pad pd=f.data:=by simp [wPay,h0]
 unfold parsePing
 rw [e2,if_neg (by simp [ht.2]),if_neg (by simp [ht.1])]
 simp [cleanF,wFl,h0,Fr.of]
theorem parse_w7 (h:Legal f pad pd) (h0:f.ty=7):parseGoAway ⟨f.ty,wFl f pd,(wPay f pad pd).length,f.st⟩ (wPay f pad pd) = .ok (whole f pad pd):=by
 have ht:=h.tk
 simp [tyOk,h0] at ht
 rw [whole_clean h]
 have e2:wPay f pad pd=w32 f.la++(w32 f.co++f.data):=by simp [wPay,h0]
 have e3:n32 (w32 f.la++(w32 f.co++f.data)) 4=f.co:=n32_w h.co.1 h.co.2 f.data
 unfold parseGoAway
 rw [e2,e3,n31_w h.la.1 (by have:=h.la.2;omega),if_neg (by simp [ht]),if_neg (by simp [w32])]
 simp [cleanF,wFl,h0,Fr.of,w32]
theorem parse_w8 (h:Legal f pad pd) (h0:f.ty=8):parseWindow ⟨f.ty,wFl f pd,(wPay f pad pd).length,f.st⟩ (wPay f pad pd) = .ok (whole f pad pd):=by
 have ht:=h.tk
 simp [tyOk,h0] at ht
 rw [whole_clean h]
 have e2:wPay f pad pd=w32 f.inc:=by simp [wPay,h0]
 unfold parseWindow
 rw [e2,n31_w0 h.ic.1 (by omega),if_neg (by simp [w32]),if_neg (by omega)]
 simp [cleanF,wFl,h0,Fr.of]
theorem parse_w16 (h:Legal f pad pd) (h0:f.ty=16):parseUpdate ⟨f.ty,wFl f pd,(wPay f pad pd).length,f.st⟩ (wPay f pad pd) = .ok (whole f pad pd):=by
 have ht:=h.tk
 simp [tyOk,h0] at ht
 rw [whole_clean h]
 have e2:wPay f pad pd=w32 f.pr++f.data:=by simp [wPay,h0]
 unfold parseUpdate
 rw [e2,n31_w h.pr.1 (by have:=h.pr.2;omega),if_neg (by simp [ht.1]),if_neg (by simp [w32]),if_neg ht.2]
 simp [cleanF,wFl,h0,Fr.of,w32]
theorem parse_w5 (h:Legal f pad pd) (h0:f.ty=5):parsePush ⟨f.ty,wFl f pd,(wPay f pad pd).length,f.st⟩ (wPay f pad pd) = .ok (whole f pad pd):=by
 have ht:=h.tk
 simp [tyOk,h0] at ht
 have hfl:=h.fl
 simp [flOk,h0] at hfl
 rw [whole_clean h]
 unfold parsePush
 simp only [ht.1,if_false]
 have hp1:=h.pr
 cases pd with
 | false =>
   have hp:=h.pn rfl
   subst hp
   have e1:wFl f false=f.fl:=by simp [wFl,h0]
   have e2:wPay f [] false=w32 f.pr++f.data:=by simp [wPay,h0]
   have e3:bitOf f.fl 8=false:=by rcases hfl with e|e<;>rw [e]<;>rfl
   rw [e1,e2,e3]
   simp only [Bool.false_eq_true,if_false]
   unfold pushEnd
   rw [if_neg (by simp [w32]),if_neg (by simp [w32];omega),n31_w hp1.1 (by omega)]
   have e4:(w32 f.pr++f.data).drop 4=f.data:=rfl
   rw [e4,List.take_of_length_le (by simp [w32])]
   simp [cleanF,h0,Fr.of]
 | true =>
   have e1:wFl f true=f.fl+8:=by simp [wFl,h0]
   have e2:wPay f pad true=(pad.length:Int)::(w32 f.pr++(f.data++pad)):=by simp [wPay,h0]
   have e3:bitOf (f.fl+8) 8=true:=by rcases hfl with e|e<;>rw [e]<;>rfl
   rw [e1,e2,e3]
   simp only [if_true]
   unfold pushEnd
   rw [if_neg (by simp [w32]),if_neg (by simp [w32];omega),n31_w hp1.1 (by omega)]
   have e4:(w32 f.pr++(f.data++pad)).drop 4=f.data++pad:=rfl
   have e5:(w32 f.pr++(f.data++pad)).length-4-((pad.length:Nat):Int).toNat=(f.data++pad).length-((pad.length:Nat):Int).toNat:=by simp [w32]
   rw [e4,e5,take_pad]
   simp [cleanF,h0,Fr.of]
theorem parse_w1 (h:Legal f pad pd) (h0:f.ty=1):parseHeaders ⟨f.ty,wFl f pd,(wPay f pad pd).length,f.st⟩ (wPay f pad pd) = .ok (whole f pad pd):=by
 have ht:=h.tk
 simp [tyOk,h0] at ht
 have hfl:=h.fl
 simp [flOk,h0] at hfl
 have hd:=h.dep
 rw [whole_clean h]
 have n3:∀b,n32 (wDep f++b) 0=f.dep+if f.ex then 2147483648 else 0:=fun b=>by unfold wDep;rw [List.append_assoc];exact n32_w (by split<;>omega) (by split<;>omega) _
 have n4:∀b,n31 (wDep f++b) 0=f.dep:=fun b=>by unfold n31;rw [n3];split<;>omega
 have n5:∀b,gb (wDep f++b) 4=f.wt:=fun b=>rfl
 have n6:decide (2147483648≤f.dep+if f.ex then 2147483648 else 0)=f.ex:=by cases f.ex<;>simp<;>omega
 have n7:∀b,(wDep f++b).drop 5=b:=fun b=>rfl
 unfold parseHeaders
 simp only [ht,if_false]
 cases pd with
 | false =>
   have hp:=h.pn rfl
   subst hp
   cases hh:f.hp with
   | false =>
     have e1:wFl f false=f.fl:=by simp [wFl,h0,hh]
     have e2:wPay f [] false=f.data:=by simp [wPay,h0,hh]
     have e3:bitOf f.fl 8=false:=by rcases hfl with e|e|e|e<;>rw [e]<;>rfl
     have e4:bitOf f.fl 32=false:=by rcases hfl with e|e|e|e<;>rw [e]<;>rfl
     rw [e1,e2,e3]
     simp only [Bool.false_eq_true,if_false]
     unfold headPrio
     simp only [e4,Bool.false_eq_true,if_false]
     unfold headEnd
     rw [if_neg (by simp),List.take_of_length_le (by simp)]
     simp [cleanF,h0,Fr.of,hh]
   | true =>
     have e1:wFl f false=f.fl+32:=by simp [wFl,h0,hh]
     have e2:wPay f [] false=wDep f++f.data:=by simp [wPay,h0,hh]
     have e3:bitOf (f.fl+32) 8=false:=by rcases hfl with e|e|e|e<;>rw [e]<;>rfl
     have e4:bitOf (f.fl+32) 32=true:=by rcases hfl with e|e|e|e<;>rw [e]<;>rfl
     rw [e1,e2,e3]
     simp only [Bool.false_eq_true,if_false]
     unfold headPrio
     simp only [e4,if_true]
     rw [if_neg (by simp [wDep,w32]),n3,n4,n5,n6,n7]
     unfold headEnd
     rw [if_neg (by simp),List.take_of_length_le (by simp)]
     simp [cleanF,h0,Fr.of,hh]
 | true =>
   cases hh:f.hp with
   | false =>
     have e1:wFl f true=f.fl+8:=by simp [wFl,h0,hh]
     have e2:wPay f pad true=(pad.length:Int)::(f.data++pad):=by simp [wPay,h0,hh]
     have e3:bitOf (f.fl+8) 8=true:=by rcases hfl with e|e|e|e<;>rw [e]<;>rfl
     have e4:bitOf (f.fl+8) 32=false:=by rcases hfl with e|e|e|e<;>rw [e]<;>rfl
     rw [e1,e2,e3]
     simp only [if_true]
     unfold headPrio
     simp only [e4,Bool.false_eq_true,if_false]
     unfold headEnd
     rw [if_neg (by simp;omega),take_pad]
     simp [cleanF,h0,Fr.of,hh]
   | true =>
     have e1:wFl f true=f.fl+8+32:=by simp [wFl,h0,hh]
     have e2:wPay f pad true=(pad.length:Int)::(wDep f++(f.data++pad)):=by simp [wPay,h0,hh]
     have e3:bitOf (f.fl+8+32) 8=true:=by rcases hfl with e|e|e|e<;>rw [e]<;>rfl
     have e4:bitOf (f.fl+8+32) 32=true:=by rcases hfl with e|e|e|e<;>rw [e]<;>rfl
     rw [e1,e2,e3]
     simp only [if_true]
     unfold headPrio
     simp only [e4,if_true]
     rw [if_neg (by simp [wDep,w32]),n3,n4,n5,n6,n7]
     unfold headEnd
     rw [if_neg (by simp;omega),take_pad]
     simp [cleanF,h0,Fr.of,hh]
theorem parse_w (h:Legal f pad pd):parse ⟨f.ty,wFl f pd,(wPay f pad pd).length,f.st⟩ (wPay f pad pd) = .ok (whole f pad pd):=by
 unfold parse
 simp only []
 by_cases h0:f.ty=0
 · rw [if_pos h0];exact parse_w0 h h0
 rw [if_neg h0]
 by_cases h1:f.ty=1
 · rw [if_pos h1];exact parse_w1 h h1
 rw [if_neg h1]
 by_cases h2:f.ty=2
 · rw [if_pos h2];exact parse_w2 h h2
 rw [if_neg h2]
 by_cases h3:f.ty=3
 · rw [if_pos h3];exact parse_w3 h h3
 rw [if_neg h3]
 by_cases h4:f.ty=4
 · rw [if_pos h4];exact parse_w4 h h4
 rw [if_neg h4]
 by_cases h5:f.ty=5
 · rw [if_pos h5];exact parse_w5 h h5
 rw [if_neg h5]
 by_cases h6:f.ty=6
 · rw [if_pos h6];exact parse_w6 h h6
 rw [if_neg h6]
 by_cases h7:f.ty=7
 · rw [if_pos h7];exact parse_w7 h h7
 rw [if_neg h7]
 by_cases h8:f.ty=8
 · rw [if_pos h8];exact parse_w8 h h8
 rw [if_neg h8]
 by_cases h9:f.ty=9
 · rw [if_pos h9];exact parse_w9 h h9
 rw [if_neg h9]
 by_cases h16:f.ty=16
 · rw [if_pos h16];exact parse_w16 h h16
 rw [if_neg h16]
 unfold parseUnknown
 rw [whole_clean h]
 simp [cleanF,wFl,wPay,h0,h1,h2,h3,h4,h5,h7,h8,h16,Fr.of]
theorem wDep_len (f:Fr):(wDep f).length=5:=rfl
theorem wPay_len (h:Legal f pad pd):(wPay f pad pd).length≤16384:=by
 have h1:=h.dl
 have h2:=h.pl
 have h3:=h.tk
 unfold wPay
 split
 · rename_i ht
   simp only [List.length_append]
   have a1:(if pd=true then [(pad.length:Int)] else []).length≤1:=by split<;>simp
   have a2:(if f.ty=5 then w32 f.pr else []).length≤4:=by split<;>simp [w32]
   have a3:(if f.ty=1∧f.hp=true then wDep f else []).length≤5:=by split<;>simp [wDep_len]
   have a4:(if pd=true then pad else []).length≤255:=by split<;>simp [h2]
   omega
 split
 · rw [wDep_len];omega
 split
 · simp [w32]
 split
 · rename_i h0 _ _ h4
   have:=h.tk
   simp [tyOk,h4] at this
   rw [wSet_len]
   omega
 split
 · simp [w32];omega
 split
 · simp [w32]
 split
 · simp [w32];omega
 · omega
end
def wAll:List (Fr × List Int × Bool)→List Int
 | [] => []
 | z::l=>wBytes z.1 z.2.1 z.2.2++wAll l
theorem read_written {M:Int} (hM:16384≤M):∀(l:List (Fr × List Int × Bool)) (o:Int),(∀z∈l,Legal z.1 z.2.1 z.2.2)→(readAll M o (wAll l)).length=l.length+1 →
   ∀(i:Nat) (z:Fr × List Int × Bool),l[i]? = some z→(readAll M o (wAll l))[i]? = some (Rs.ok (whole z.1 z.2.1 z.2.2))
 | [],_,_,_=>fun i z h=>by simp at h
 | z::l,o,hl,hn=>fun i y hi=>by
   have hz:=hl z (List.mem_cons_self ..)
   have hlen:=wPay_len hz
   have hst:=hz.st
   have e0:wAll (z::l)=wHd (wPay z.1 z.2.1 z.2.2).length z.1.ty (wFl z.1 z.2.2) z.1.st++(wPay z.1 z.2.1 z.2.2++wAll l):=by
     show wBytes z.1 z.2.1 z.2.2++wAll l=_
     unfold wBytes
     rw [List.append_assoc]
   have e1:hdOf (wAll (z::l))=⟨z.1.ty,wFl z.1 z.2.2,(wPay z.1 z.2.1 z.2.2).length,z.1.st⟩:=by
     rw [e0];exact hdOf_w _ _ _ _ (by omega) (by omega) hst.1 (by omega) _
   have e2:(wAll (z::l)).drop 9=wPay z.1 z.2.1 z.2.2++wAll l:=by rw [e0];rfl
   have e9:9≤(wAll (z::l)).length:=by rw [e0];simp [wHd,w32]
   have eln:(hdOf (wAll (z::l))).ln=((wPay z.1 z.2.1 z.2.2).length:Int):=by rw [e1]
   cases ho:ordBad o (hdOf (wAll (z::l))) with
   | true =>
     rw [one_ord e9 (by omega) ho] at hn
     simp at hn
   | false =>
     have hp:parse (hdOf (wAll (z::l))) (((wAll (z::l)).drop 9).take (hdOf (wAll (z::l))).ln.toNat) = .ok (whole z.1 z.2.1 z.2.2):=by
       rw [e2,eln,Int.toNat_natCast,List.take_left,e1]
       exact parse_w hz
     have hgo:=one_go e9 (m:=M) (o:=o) (by omega) ho (by rw [e2,eln,List.length_append];omega) hp (going_of (.inl rfl))
     have hr:((wAll (z::l)).drop 9).drop (hdOf (wAll (z::l))).ln.toNat=wAll l:=by rw [e2,eln,Int.toNat_natCast,List.drop_left]
     rw [hr] at hgo
     rw [hgo] at hn ⊢
     cases i with
     | zero=>simp at hi;subst hi;rfl
     | succ i =>
       simp at hi hn ⊢
       exact read_written hM l _ (fun y hy=>hl y (List.mem_cons_of_mem _ hy)) hn i y hi
end Go.Proofs.YtfdlbjibninakaaGreatDoor.Pl

namespace Go.Proofs.YtfdlbjibninakaaGreatDoor.Pl
def padAt (ps:List (Option (List Int))) (i:Nat):Option (List Int):=(ps[i]?).join
def pdOf (f:Fr) (p:Option (List Int)):Bool:=if (f.ty=1∨f.ty=5)∧(p.getD []).length=0 then false else p.isSome
def zOf (f:Fr) (p:Option (List Int)):Fr × List Int × Bool:=(f,p.getD [],pdOf f p)
def zs (fs:List Fr) (ps:List (Option (List Int))):List (Fr × List Int × Bool):=fs.mapIdx fun i f=>zOf f (padAt ps i)
theorem zs_length (fs:List Fr) (ps:List (Option (List Int))):(zs fs ps).length=fs.length:=by simp [zs]
theorem zs_get {fs:List Fr} {ps:List (Option (List Int))} {k:Nat} {f:Fr} (h:fs[k]? = some f):(zs fs ps)[k]? = some (zOf f (padAt ps k)):=by
 simp [zs,h]
theorem zs_mem {fs:List Fr} {ps:List (Option (List Int))} {z:Fr × List Int × Bool} (h:z∈zs fs ps):∃k f,fs[k]? = some f∧z=zOf f (padAt ps k):=by
 obtain ⟨k,hk⟩:=List.mem_iff_getElem?.1 h
 have hl:k<fs.length:=by
   have:=(List.getElem?_eq_some_iff.1 hk).1
   rwa [zs_length] at this
 have e:=List.getElem?_eq_getElem hl
 rw [zs_get e] at hk
 exact ⟨k,_,e,(Option.some.inj hk).symm⟩
theorem wAll_app (l m:List (Fr × List Int × Bool)):wAll (l++m)=wAll l++wAll m:=by
 induction l with
 | nil=>rfl
 | cons z l ih=>rw [List.cons_append,wAll,wAll,ih,List.append_assoc]
theorem wAll_one (z:Fr × List Int × Bool):wAll [z]=wBytes z.1 z.2.1 z.2.2:=by simp [wAll]
theorem take_snoc {α:Type} {l:List α} {k:Nat} {x:α} (h:l[k]? = some x):l.take (k+1)=l.take k ++ [x]:=by
 obtain ⟨hl,rfl⟩:=List.getElem?_eq_some_iff.1 h
 exact List.take_succ_eq_append_getElem hl
theorem wAll_take {fs:List Fr} {ps:List (Option (List Int))} {k:Nat} {f:Fr} (h:fs[k]? = some f):wAll ((zs fs ps).take (k+1))=wAll ((zs fs ps).take k)++wBytes f ((padAt ps k).getD []) (pdOf f (padAt ps k)):=by
 rw [take_snoc (zs_get h),wAll_app,wAll_one]
 rfl
theorem Legal.strip {f:Fr} {p:Option (List Int)} (h:Legal f (p.getD []) p.isSome):Legal f (p.getD []) (pdOf f p):=by
 unfold pdOf
 split
 · rename_i hc
   have e:p.getD [] = []:=List.eq_nil_of_length_eq_zero hc.2
   exact { h with pt:=(fun h=>by cases h),pn:=(fun _=>e) }
 · exact h
theorem wBytes_len {f:Fr} {pad:List Int} {pd:Bool} (h:Legal f pad pd):(wBytes f pad pd).length≤16393:=by
 have:=wPay_len h
 unfold wBytes
 rw [List.length_append]
 simp [wHd,w32]
 omega
theorem wAll_len:∀{l:List (Fr × List Int × Bool)},(∀z∈l,Legal z.1 z.2.1 z.2.2)→(wAll l).length≤l.length*16393
 | [],_=>by simp [wAll]
 | z::l,h=>by
   have h1:=wBytes_len (h z (List.mem_cons_self ..))
   have h2:=wAll_len (l:=l) fun y hy=>h y (List.mem_cons_of_mem _ hy)
   rw [wAll,List.length_append,List.length_cons]
   omega
def LegalAll (fs:List Fr) (ps:List (Option (List Int))):Prop := ∀k f,fs[k]? = some f→Legal f ((padAt ps k).getD []) (padAt ps k).isSome
theorem LegalAll.zs {fs:List Fr} {ps:List (Option (List Int))} (h:LegalAll fs ps):∀z∈zs fs ps,Legal z.1 z.2.1 z.2.2:=by
 intro z hz
 obtain ⟨k,f,hf,rfl⟩:=zs_mem hz
 exact (h k f hf).strip
theorem wAll_take_len {fs:List Fr} {ps:List (Option (List Int))} (h:LegalAll fs ps) (hn:fs.length≤100) (k:Nat):(wAll ((zs fs ps).take k)).length≤1639300:=by
 have h1:=wAll_len (l:=(zs fs ps).take k) fun z hz=>h.zs z (List.mem_of_mem_take hz)
 have h2:((zs fs ps).take k).length≤100:=by rw [List.length_take,zs_length];omega
 omega
end Go.Proofs.YtfdlbjibninakaaGreatDoor.Pl

namespace Go.Proofs.YtfdlbjibninakaaGreatDoor
open Go.ChangeShapes Go.WideShapes Go.RowKit
instance : Inhabited Fr := ⟨Fr.zero⟩
theorem list_of {α:Type} [Inhabited α] {n:Nat} {p:Nat→α→Prop} (h:∀i,i<n → ∃x,p i x):∃l:List α,l.length=n ∧ ∀j x,l[j]? = some x→p j x:=by
 obtain ⟨f,hf⟩:=Go.Deep.choose_lt h
 refine ⟨(List.range n).map f,by simp,fun j x hj => ?_⟩
 have hlt:j<n:=by
   have:=(List.getElem?_eq_some_iff.1 hj).1
   simpa using this
 have e:x=f j:=by
   rw [List.getElem?_map,List.getElem?_range hlt] at hj
   exact (Option.some.inj hj).symm
 rw [e]
 exact hf j hlt
theorem wf_u32 {x:Int} (h:(Lit.int .u32 x).wf=true):0≤x∧x<4294967296:=by
 simp [Lit.wf,IntKind.min,IntKind.max,IntKind.signed,IntKind.bits] at h
 omega
theorem wf_i64 {x:Int} (h:(Lit.int .i64 x).wf=true) : -9223372036854775808≤x∧x≤9223372036854775807:=by
 simp [Lit.wf,IntKind.min,IntKind.max,IntKind.signed,IntKind.bits] at h
 omega
theorem wf_u8 {x:Int} (h:(Lit.int .u8 x).wf=true):0≤x∧x<256:=by
 simp [Lit.wf,IntKind.min,IntKind.max,IntKind.signed,IntKind.bits] at h
 omega
def SetT (l:List (Int × Int)):Prop := ∀p∈l,(-9223372036854775808≤p.1∧p.1≤9223372036854775807)∧0≤p.2∧p.2<4294967296
structure FrTy (x:Fr):Prop where
 ty : -9223372036854775808≤x.ty∧x.ty≤9223372036854775807
 fl : -9223372036854775808≤x.fl∧x.fl≤9223372036854775807
 st:0≤x.st∧x.st<4294967296
 ln : -9223372036854775808≤x.ln∧x.ln≤9223372036854775807
 data:∀y∈x.data,0≤y∧y<256
 pr:0≤x.pr∧x.pr<4294967296
 la:0≤x.la∧x.la<4294967296
 co:0≤x.co∧x.co<4294967296
 inc:0≤x.inc∧x.inc<4294967296
 dep:0≤x.dep∧x.dep<4294967296
 wt : -9223372036854775808≤x.wt∧x.wt≤9223372036854775807
 set:SetT x.set
def FrsR (w:World) (v:Value) (fs:List Fr):Prop:=
 ∃a c,v = .slice a fs.length c∧fs.length≤c∧c≤maxLen ∧ ∀j x,fs[j]? = some x→FrTy x ∧ ∃b o dv sv,a=some ⟨b,o,none⟩∧RdB w dv x.data∧RdP w sv x.set ∧ ∀i u,(frX x dv sv)[i]? = some u→w.cell? ⟨b,o+(j*14+i),none⟩=some u
def PadV (w:World) (v:Value):Option (List Int)→Prop
 | none=>v = .slice none 0 0
 | some l=>(∃a n c,v = .slice (some a) n c)∧RdB w v l ∧ ∀y∈l,0≤y∧y<256
def PadsR (w:World) (v:Value) (ps:List (Option (List Int))):Prop:=
 ∃a c,v = .slice a ps.length c∧ps.length≤c∧c≤maxLen ∧ ∀j p,ps[j]? = some p → ∃b o pv,a=some ⟨b,o,none⟩∧w.cell? ⟨b,o+j,none⟩=some pv∧PadV w pv p
section
variable {H : Type} {enc : TypeId × Value → H} {W : World}
theorem rd_trod {P:Program} {t e:TypeId} {k:IntKind} {fuel:Nat} {cs:List Value} {x:DataW H × List MemPlace} (ht:P.underlying t=some (.slice e)) (he:P.underlying e=some (.int k)) (hc:P.cellsOf e=1)
   (h:DataW.trod enc P W 0 (fun _=>true) true fuel t cs=some x):∃v l,cs = [v]∧RdI k W v l∧(∀y∈l,(Lit.int k y).wf=true)∧(v = .slice none 0 0 ∨ ∃a n c,v = .slice (some a) n c):=by
 rcases open_ints ht he hc h with ⟨rfl,-⟩|⟨a,len,cap,zs,rfl,-,hle,hmax,hall,-,hcell,hwf⟩
 · exact ⟨_,[],rfl,⟨none,0,rfl,Nat.le_refl _,Nat.zero_le _,fun j x hj=>by simp at hj⟩,(fun x hx=>by cases hx),.inl rfl⟩
 · simp only [if_true] at hall
   refine ⟨_,zs.take len,rfl,⟨some a,cap,?_,?_,hmax,?_⟩,fun x hx=>hwf x (List.mem_of_mem_take hx),.inr ⟨_,_,_,rfl⟩⟩
   · rw [List.length_take,hall,Nat.min_eq_left hle]
   · rw [List.length_take,hall,Nat.min_eq_left hle];exact hle
   · intro j x hj
     have hjl:j<len:=by
       have:=(List.getElem?_eq_some_iff.1 hj).1
       simp at this
       omega
     rw [List.getElem?_take_of_lt hjl] at hj
     obtain ⟨hjz,hjx⟩:=List.getElem?_eq_some_iff.1 hj
     obtain ⟨b,off,rfl,hc'⟩:=ints_at hcell (by omega)
     refine ⟨b,off,rfl,?_⟩
     rw [hc' j hjz,←hjx]
     simp [List.getD,hj,hjx]
theorem plain_addr {a:Addr} {v:Value} (h:W.cell? (a.add 0)=some v):∃b o,a=⟨b,o,none⟩:=by
 obtain ⟨b,off,spot⟩:=a
 have hspot:spot=none:=by simpa [Addr.add] using World.cell?_spot h
 subst hspot
 exact ⟨b,off,rfl⟩
theorem set_trod {t e:TypeId} {f0 f1:Field} {fuel:Nat} {cs:List Value} {x:DataW H × List MemPlace} (ht:Tryz.prog.underlying t=some (.slice e)) (he:Tryz.prog.underlying e=some (.struct #[f0,f1]))
   (ce:Tryz.prog.cellsOf e=2) (o0:f0.offset=0) (o1:f1.offset=1) (c0:Tryz.prog.cellsOf f0.type=1) (c1:Tryz.prog.cellsOf f1.type=1) (hi:Tryz.prog.underlying f0.type=some (.int .i64)) (hu:Tryz.prog.underlying f1.type=some (.int .u32))
   (h:DataW.trod enc Tryz.prog W 0 (fun _=>true) true fuel t cs=some x):∃v l,cs = [v]∧RdP W v l∧SetT l:=by
 rcases Go.Deep.open_slice_pairs ht he ce o0 o1 c0 c1 h with ⟨rfl,-⟩|⟨a,len,cap,m,n,V0,V1,D0,D1,P0,P1,rfl,-,hl,hm,hmm,-,hx⟩
 · exact ⟨_,[],rfl,RdP.nil W,fun p hp=>by cases hp⟩
 · simp only [if_true] at hmm
   subst hmm
   have each:∀i,i<len → ∃p:Int × Int,W.cell? (a.add (i*2))=some (.int .i64 p.1)∧W.cell? (a.add (i*2+1))=some (.int .u32 p.2)∧(Lit.int .i64 p.1).wf=true∧(Lit.int .u32 p.2).wf=true:=by
     intro i hlt
     obtain ⟨h1,h2,h3,h4⟩:=hx i (by omega)
     obtain ⟨y0,e0,-,w0⟩:=DataW.trod_int hi h3
     obtain ⟨y1,e1,-,w1⟩:=DataW.trod_int hu h4
     simp only [List.cons.injEq,and_true] at e0 e1
     exact ⟨(y0,y1),by rw [h1,e0],by rw [h2,e1],w0,w1⟩
   obtain ⟨l,hll,hl2⟩:=list_of each
   subst hll
   refine ⟨_,l,rfl,⟨some a,m,rfl,hl,hm,fun j p hj => ?_⟩,fun p hp => ?_⟩
   · obtain ⟨g1,g2,-,-⟩:=hl2 j p hj
     have hj0:=(List.getElem?_eq_some_iff.1 hj).1
     obtain ⟨b,o,rfl⟩:=plain_addr (by have:=(hl2 0 _ (List.getElem?_eq_getElem (by omega))).1;rw [Nat.zero_mul] at this;exact this)
     rw [add_plain] at g1 g2
     refine ⟨b,o,rfl,?_,?_⟩
     · rw [show o+2*j=o+j*2 by omega];exact g1
     · rw [show o+(2*j+1)=o+(j*2+1) by omega];exact g2
   · obtain ⟨j,hj⟩:=List.mem_iff_getElem?.1 hp
     obtain ⟨-,-,g3,g4⟩:=hl2 j p hj
     exact ⟨wf_i64 g3,wf_u32 g4⟩
theorem fld {P:Program} {fs:Array Field} {n:Nat} {cs:List Value} {xs:List (DataW H × List MemPlace)} (hf:∀(i:Nat) (f:Field),fs[i]? = some f→DataW.trod enc P W 0 (fun _=>true) true n f.type ((cs.drop f.offset).take (P.cellsOf f.type))=xs[i]?) (hl:xs.length=fs.size)
   (i:Nat) (f:Field) (hi:fs[i]? = some f) (t:TypeId) (et:f.type=t) (eo:f.offset=i) (ec:P.cellsOf t=1) (c:Value) (hc:(cs.drop i).take 1 = [c]):∃y,DataW.trod enc P W 0 (fun _=>true) true n t [c]=some y:=by
 have:=hf i f hi
 rw [et,eo,ec,hc] at this
 have hlt:i<xs.length:=by rw [hl];exact (Array.getElem?_eq_some_iff.1 hi).1
 exact ⟨xs[i],by rw [this];exact List.getElem?_eq_getElem hlt⟩
theorem int_cell {t:TypeId} {k:IntKind} {n:Nat} {c:Value} {y:DataW H × List MemPlace} (ht:Tryz.prog.underlying t=some (.int k)) (h:DataW.trod enc Tryz.prog W 0 (fun _=>true) true n t [c]=some y):∃z,c = .int k z∧(Lit.int k z).wf=true:=by
 obtain ⟨z,e,-,hw⟩:=DataW.trod_int ht h
 exact ⟨z,by simpa using e,hw⟩
theorem bool_cell {t:TypeId} {n:Nat} {c:Value} {y:DataW H × List MemPlace} (ht:Tryz.prog.underlying t=some .bool) (h:DataW.trod enc Tryz.prog W 0 (fun _=>true) true n t [c]=some y):∃z,c = .bool z:=by
 obtain ⟨z,e,-⟩:=DataW.trod_bool ht h
 exact ⟨z,by simpa using e⟩
theorem cI:Tryz.prog.cellsOf 3=1:=by kernel_rfl
theorem cU:Tryz.prog.cellsOf 26=1:=by kernel_rfl
theorem c8:Tryz.prog.cellsOf 5=1:=by kernel_rfl
theorem cBl:Tryz.prog.cellsOf 4=1:=by kernel_rfl
theorem cSB:Tryz.prog.cellsOf 22=1:=by kernel_rfl
theorem cSS:Tryz.prog.cellsOf 27=1:=by kernel_rfl
theorem cSt:Tryz.prog.cellsOf 97=2:=by kernel_rfl
theorem cFr:Tryz.prog.cellsOf 29=14:=by kernel_rfl
set_option maxRecDepth 100000 in
theorem frame_trod {n:Nat} {cs:List Value} {x:DataW H × List MemPlace} (h:DataW.trod enc Tryz.prog W 0 (fun _=>true) true n 29 cs=some x):∃(y:Fr) (dv sv:Value),cs=(frX y dv sv).toList∧FrTy y∧RdB W dv y.data∧RdP W sv y.set:=by
 obtain ⟨xs,m,-,-,hlen,hxl,hf⟩:=DataW.trod_struct Tryz.underlying29 h
 rw [cFr] at hlen
 match cs,hlen with
 | [c0,c1,c2,c3,c4,c5,c6,c7,c8',c9,c10,c11,c12,c13],_ =>
   obtain ⟨y0,t0⟩:=fld hf hxl 0 _ rfl 3 rfl rfl cI c0 rfl
   obtain ⟨y1,t1⟩:=fld hf hxl 1 _ rfl 3 rfl rfl cI c1 rfl
   obtain ⟨y2,t2⟩:=fld hf hxl 2 _ rfl 26 rfl rfl cU c2 rfl
   obtain ⟨y3,t3⟩:=fld hf hxl 3 _ rfl 3 rfl rfl cI c3 rfl
   obtain ⟨y4,t4⟩:=fld hf hxl 4 _ rfl 22 rfl rfl cSB c4 rfl
   obtain ⟨y5,t5⟩:=fld hf hxl 5 _ rfl 26 rfl rfl cU c5 rfl
   obtain ⟨y6,t6⟩:=fld hf hxl 6 _ rfl 26 rfl rfl cU c6 rfl
   obtain ⟨y7,t7⟩:=fld hf hxl 7 _ rfl 26 rfl rfl cU c7 rfl
   obtain ⟨y8,t8⟩:=fld hf hxl 8 _ rfl 26 rfl rfl cU c8' rfl
   obtain ⟨y9,t9⟩:=fld hf hxl 9 _ rfl 4 rfl rfl cBl c9 rfl
   obtain ⟨y10,t10⟩:=fld hf hxl 10 _ rfl 4 rfl rfl cBl c10 rfl
   obtain ⟨y11,t11⟩:=fld hf hxl 11 _ rfl 26 rfl rfl cU c11 rfl
   obtain ⟨y12,t12⟩:=fld hf hxl 12 _ rfl 3 rfl rfl cI c12 rfl
   obtain ⟨y13,t13⟩:=fld hf hxl 13 _ rfl 27 rfl rfl cSS c13 rfl
   obtain ⟨ty,rfl,wty⟩:=int_cell Tryz.underlying3 t0
   obtain ⟨fl,rfl,wfl⟩:=int_cell Tryz.underlying3 t1
   obtain ⟨st,rfl,wst⟩:=int_cell Tryz.underlying26 t2
   obtain ⟨ln,rfl,wln⟩:=int_cell Tryz.underlying3 t3
   obtain ⟨dv,data,hdv,rdata,wdata,-⟩:=rd_trod Tryz.underlying22 Tryz.underlying5 c8 t4
   obtain ⟨pr,rfl,wpr⟩:=int_cell Tryz.underlying26 t5
   obtain ⟨la,rfl,wla⟩:=int_cell Tryz.underlying26 t6
   obtain ⟨co,rfl,wco⟩:=int_cell Tryz.underlying26 t7
   obtain ⟨inc,rfl,winc⟩:=int_cell Tryz.underlying26 t8
   obtain ⟨hp,rfl⟩:=bool_cell Tryz.underlying4 t9
   obtain ⟨ex,rfl⟩:=bool_cell Tryz.underlying4 t10
   obtain ⟨dep,rfl,wdep⟩:=int_cell Tryz.underlying26 t11
   obtain ⟨wt,rfl,wwt⟩:=int_cell Tryz.underlying3 t12
   obtain ⟨sv,set,hsv,rset,wset⟩:=set_trod Tryz.underlying27 Tryz.underlying97 cSt rfl rfl cI cU Tryz.underlying3 Tryz.underlying26 t13
   simp only [List.cons.injEq,and_true] at hdv hsv
   subst hdv
   subst hsv
   exact ⟨⟨ty,fl,st,ln,data,pr,la,co,inc,hp,ex,dep,wt,set⟩,_,_,rfl,⟨wf_i64 wty,wf_i64 wfl,wf_u32 wst,wf_i64 wln,fun y hy=>wf_u8 (wdata y hy),wf_u32 wpr,wf_u32 wla,wf_u32 wco,wf_u32 winc,wf_u32 wdep,wf_i64 wwt,wset⟩,rdata,rset⟩
theorem cell_add {a:Addr} {k:Nat} {v:Value} (h:W.cell? (a.add k)=some v) (hk:k=0):∃b o,a=⟨b,o,none⟩:=by
 subst hk
 exact plain_addr h
theorem frames_trod {fuel:Nat} {cs:List Value} {x:DataW H × List MemPlace} (h:DataW.trod enc Tryz.prog W 0 (fun _=>true) true fuel 41 cs=some x):∃v fs,cs = [v]∧FrsR W v fs:=by
 rcases Go.Deep.open_slice Tryz.underlying41 h with ⟨rfl,-⟩|⟨a,len,cap,m,n,D,Pl,rfl,-,hl,hm,hmm,-,hx⟩
 · exact ⟨_,[],rfl,none,0,rfl,Nat.le_refl _,Nat.zero_le _,fun j x hj=>by simp at hj⟩
 · simp only [if_true] at hmm
   subst hmm
   rw [cFr] at hx
   have each:∀i,i<len → ∃p:Fr × Value × Value,FrTy p.1∧RdB W p.2.1 p.1.data∧RdP W p.2.2 p.1.set ∧ ∀j u,(frX p.1 p.2.1 p.2.2)[j]? = some u→W.cell? ((a.add (i*14)).add j)=some u:=by
     intro i hlt
     obtain ⟨cs',h1,h2⟩:=hx i (by omega)
     obtain ⟨y,dv,sv,rfl,ht,hd,hs⟩:=frame_trod h2
     obtain ⟨-,-,hc⟩:=World.cells?_some h1
     refine ⟨(y,dv,sv),ht,hd,hs,fun j u hu => ?_⟩
     have hj:j<14:=(Array.getElem?_eq_some_iff.1 hu).1
     rw [hc j hj]
     simpa using hu
   obtain ⟨l,hll,hl2⟩:=list_of each
   have hla:∀j p,l[j]? = some p → ∃b o,a=⟨b,o,none⟩:=fun j p hj=>by
     have hj0:=(List.getElem?_eq_some_iff.1 hj).1
     have:=(hl2 0 _ (List.getElem?_eq_getElem (by omega))).2.2.2 0 _ rfl
     rw [Nat.zero_mul,Go.Deep.add_add] at this
     exact cell_add this rfl
   refine ⟨_,l.map (·.1),rfl,some a,m,by rw [List.length_map,hll],by rw [List.length_map,hll];exact hl,hm,fun j x hj => ?_⟩
   rw [List.getElem?_map] at hj
   obtain ⟨p,hp,rfl⟩:=Option.map_eq_some_iff.1 hj
   obtain ⟨g1,g2,g3,g4⟩:=hl2 j p hp
   obtain ⟨b,o,rfl⟩:=hla j p hp
   refine ⟨g1,b,o,p.2.1,p.2.2,rfl,g2,g3,fun i u hu => ?_⟩
   have:=g4 i u hu
   rwa [Go.Deep.add_add,add_plain] at this
theorem pads_trod {fuel:Nat} {cs:List Value} {x:DataW H × List MemPlace} (h:DataW.trod enc Tryz.prog W 0 (fun _=>true) true fuel 42 cs=some x):∃v ps,cs = [v]∧PadsR W v ps:=by
 rcases Go.Deep.open_slice1 Tryz.underlying42 cSB h with ⟨rfl,-⟩|⟨a,len,cap,m,n,V,D,Pl,rfl,-,hl,hm,hmm,-,hx⟩
 · exact ⟨_,[],rfl,none,0,rfl,Nat.le_refl _,Nat.zero_le _,fun j x hj=>by simp at hj⟩
 · simp only [if_true] at hmm
   subst hmm
   have each:∀i,i<len → ∃p:Option (List Int),∃pv,W.cell? (a.add i)=some pv∧PadV W pv p:=by
     intro i hlt
     obtain ⟨h1,h2⟩:=hx i (by omega)
     obtain ⟨v,l,e,hr,hw,hk⟩:=rd_trod Tryz.underlying22 Tryz.underlying5 c8 h2
     simp only [List.cons.injEq,and_true] at e
     rcases hk with rfl|hk
     · exact ⟨none,_,h1,e⟩
     · subst e
       exact ⟨some l,_,h1,hk,hr,fun y hy=>wf_u8 (hw y hy)⟩
   obtain ⟨l,hll,hl2⟩:=list_of each
   have hla:∀j p,l[j]? = some p → ∃b o,a=⟨b,o,none⟩:=fun j p hj=>by
     have hj0:=(List.getElem?_eq_some_iff.1 hj).1
     obtain ⟨pv,h1,-⟩:=hl2 0 _ (List.getElem?_eq_getElem (by omega))
     exact cell_add h1 rfl
   refine ⟨_,l,rfl,some a,m,by rw [hll],by rw [hll];exact hl,hm,fun j p hj => ?_⟩
   obtain ⟨pv,g1,g2⟩:=hl2 j p hj
   obtain ⟨b,o,rfl⟩:=hla j p hj
   rw [add_plain] at g1
   exact ⟨b,o,pv,rfl,g1,g2⟩
end
end Go.Proofs.YtfdlbjibninakaaGreatDoor

/- Reading: the parsers of frames, each against the plain model (1: DATA). -/
import Derived.Test.YtfdlbjibninakaaGreatDoorPk
set_option linter.unusedVariables false
set_option linter.unusedSimpArgs false
namespace Go.Proofs.YtfdlbjibninakaaGreatDoor
set_option maxRecDepth 10000
set_option maxHeartbeats 4000000
open Go.RowKit
inductive FrV (B:Nat) (w:World):Value→Fr→Prop
 | data (h:Hd) (b:List Int) (p:Nat) (v:Value) (hB:B≤p) (hp:w.heap[p]? = some (.cells #[.bool true,.int .u8 h.ty,.int .u8 h.fl,.int .u32 h.ln,.int .u32 h.st,v] 215 (0,0))) (hv:RdB w v b) :
     FrV B w (.iface 126 (.pointer (some ⟨p,0,none⟩))) { Fr.of h with data:=b }
 | headers (h:Hd) (b:List Int) (p:Nat) (v:Value) (dep wt:Int) (ex:Bool) (hB:B≤p)
     (hp:w.heap[p]? = some (.cells #[.bool true,.int .u8 h.ty,.int .u8 h.fl,.int .u32 h.ln,.int .u32 h.st,.int .u32 dep,.bool ex,.int .u8 wt,.int .u8 0,.int .u8 0,v] 135 (0,0))) (hv:RdB w v b) :
     FrV B w (.iface 129 (.pointer (some ⟨p,0,none⟩))) { Fr.of h with data:=b,hp:=bitOf h.fl 32,ex:=ex,dep:=dep,wt:=wt }
 | priority (h:Hd) (p:Nat) (dep wt:Int) (ex:Bool) (hB:B≤p)
     (hp:w.heap[p]? = some (.cells #[.bool true,.int .u8 h.ty,.int .u8 h.fl,.int .u32 h.ln,.int .u32 h.st,.int .u32 dep,.bool ex,.int .u8 wt,.int .u8 0,.int .u8 0] 138 (0,0))) :
     FrV B w (.iface 136 (.pointer (some ⟨p,0,none⟩))) { Fr.of h with ex:=ex,dep:=dep,wt:=wt }
 | rst (h:Hd) (p:Nat) (co:Int) (hB:B≤p) (hp:w.heap[p]? = some (.cells #[.bool true,.int .u8 h.ty,.int .u8 h.fl,.int .u32 h.ln,.int .u32 h.st,.int .u32 co] 141 (0,0))) :
     FrV B w (.iface 139 (.pointer (some ⟨p,0,none⟩))) { Fr.of h with co:=co }
 | settings (h:Hd) (b:List Int) (p:Nat) (v:Value) (hB:B≤p) (hp:w.heap[p]? = some (.cells #[.bool true,.int .u8 h.ty,.int .u8 h.fl,.int .u32 h.ln,.int .u32 h.st,v] 218 (0,0))) (hv:RdB w v b) (h6:b.length%6=0) (hb:Bs b) :
     FrV B w (.iface 142 (.pointer (some ⟨p,0,none⟩))) { Fr.of h with set:=pairs (b.length / 6) b }
 | push (h:Hd) (b:List Int) (p:Nat) (v:Value) (pr:Int) (hB:B≤p) (hp:w.heap[p]? = some (.cells #[.bool true,.int .u8 h.ty,.int .u8 h.fl,.int .u32 h.ln,.int .u32 h.st,.int .u32 pr,v] 151 (0,0))) (hv:RdB w v b) :
     FrV B w (.iface 149 (.pointer (some ⟨p,0,none⟩))) { Fr.of h with pr:=pr,data:=b }
 | ping (h:Hd) (b:List Int) (p:Nat) (cs:Array Value) (hB:B≤p) (hp:w.heap[p]? = some (.cells cs 155 (0,0))) (hz:cs.size=13) (h0:cs[0]? = some (.bool true)) (h1:cs[1]? = some (.int .u8 h.ty)) (h2:cs[2]? = some (.int .u8 h.fl))
     (h3:cs[3]? = some (.int .u32 h.ln)) (h4:cs[4]? = some (.int .u32 h.st)) (hd:∀j x,b[j]? = some x→cs[5+j]? = some (.int .u8 x)) (hl:b.length=8):FrV B w (.iface 152 (.pointer (some ⟨p,0,none⟩))) { Fr.of h with data:=b }
 | goaway (h:Hd) (b:List Int) (p:Nat) (v:Value) (la co:Int) (hB:B≤p) (hp:w.heap[p]? = some (.cells #[.bool true,.int .u8 h.ty,.int .u8 h.fl,.int .u32 h.ln,.int .u32 h.st,.int .u32 la,.int .u32 co,v] 158 (0,0))) (hv:RdB w v b) :
     FrV B w (.iface 156 (.pointer (some ⟨p,0,none⟩))) { Fr.of h with la:=la,co:=co,data:=b }
 | window (h:Hd) (p:Nat) (inc:Int) (hB:B≤p) (hp:w.heap[p]? = some (.cells #[.bool true,.int .u8 h.ty,.int .u8 h.fl,.int .u32 h.ln,.int .u32 h.st,.int .u32 inc] 161 (0,0))) :
     FrV B w (.iface 159 (.pointer (some ⟨p,0,none⟩))) { Fr.of h with inc:=inc }
 | cont (h:Hd) (b:List Int) (p:Nat) (v:Value) (hB:B≤p) (hp:w.heap[p]? = some (.cells #[.bool true,.int .u8 h.ty,.int .u8 h.fl,.int .u32 h.ln,.int .u32 h.st,v] 222 (0,0))) (hv:RdB w v b) :
     FrV B w (.iface 162 (.pointer (some ⟨p,0,none⟩))) { Fr.of h with data:=b }
 | update (h:Hd) (b:List Int) (p:Nat) (pr:Int) (hB:B≤p) (hp:w.heap[p]? = some (.cells #[.bool true,.int .u8 h.ty,.int .u8 h.fl,.int .u32 h.ln,.int .u32 h.st,.string (strOfNums b),.int .u32 pr] 165 (0,0))) (hl:b.length≤maxLen) (hb:Bs b) :
     FrV B w (.iface 163 (.pointer (some ⟨p,0,none⟩))) { Fr.of h with pr:=pr,data:=b }
 | unknown (h:Hd) (b:List Int) (p:Nat) (v:Value) (hB:B≤p) (hp:w.heap[p]? = some (.cells #[.bool true,.int .u8 h.ty,.int .u8 h.fl,.int .u32 h.ln,.int .u32 h.st,v] 223 (0,0))) (hv:RdB w v b) :
     FrV B w (.iface 166 (.pointer (some ⟨p,0,none⟩))) { Fr.of h with data:=b }
def ErrW (aU:Addr) (f c s:Int) (ev:Value):Prop:=
 f=2∧c=0∧s=0∧ev = .iface 251 (.pointer (some aU))∨f=4∧s=0∧ev = .iface 117 (.int .u32 c)∨f=4∧s=0∧(∃t,ev = .iface 197 (.agg #[.int .u32 c,.string t])) ∨
 f=5∧ev = .iface 120 (.agg #[.int .u32 s,.int .u32 c,.nilIface])
def Parsed (aU:Addr) (w:World) (r:Rs) (e:Ending) (w':World):Prop:=
 ∃fv ev,e = .returned (.tuple #[fv,ev])∧Below w.heap.size w w'∧((∃x,r = .ok x∧ev = .nilIface∧FrV w.heap.size w' fv x)∨(∃f c s,r = .bad f c s∧fv = .nilIface∧ErrW aU f c s ev))
section
variable {aU : Addr} {w w' : World} {r : Rs}
theorem Parsed.cut (hr:r = .bad 2 0 0) (hb:Below w.heap.size w w'):Parsed aU w r (.returned (.tuple #[.nilIface,.iface 251 (.pointer (some aU))])) w':=
 ⟨_,_,rfl,hb,.inr ⟨2,0,0,hr,rfl,.inl ⟨rfl,rfl,rfl,rfl⟩⟩⟩
theorem Parsed.conn {c:Int} (hr:r = .bad 4 c 0) (hb:Below w.heap.size w w'):Parsed aU w r (.returned (.tuple #[.nilIface,.iface 117 (.int .u32 c)])) w':=
 ⟨_,_,rfl,hb,.inr ⟨4,c,0,hr,rfl,.inr (.inl ⟨rfl,rfl,rfl⟩)⟩⟩
theorem Parsed.connR {c:Int} {t:ByteArray} (hr:r = .bad 4 c 0) (hb:Below w.heap.size w w'):Parsed aU w r (.returned (.tuple #[.nilIface,.iface 197 (.agg #[.int .u32 c,.string t])])) w':=
 ⟨_,_,rfl,hb,.inr ⟨4,c,0,hr,rfl,.inr (.inr (.inl ⟨rfl,rfl,_,rfl⟩))⟩⟩
theorem Parsed.stream {c s:Int} (hr:r = .bad 5 c s) (hb:Below w.heap.size w w'):Parsed aU w r (.returned (.tuple #[.nilIface,.iface 120 (.agg #[.int .u32 s,.int .u32 c,.nilIface])])) w':=
 ⟨_,_,rfl,hb,.inr ⟨5,c,s,hr,rfl,.inr (.inr (.inr ⟨rfl,rfl⟩))⟩⟩
theorem Parsed.ok {fv:Value} {x:Fr} (hf:FrV w.heap.size w' fv x) (hr:r = .ok x) (hb:Below w.heap.size w w'):Parsed aU w r (.returned (.tuple #[fv,.nilIface])) w':=
 ⟨_,_,rfl,hb,.inl ⟨x,hr,rfl,hf⟩⟩
end
abbrev hdV (ty fl ln st:Int):Value:=.agg #[.bool true,.int .u8 ty,.int .u8 fl,.int .u32 ln,.int .u32 st]
abbrev cntV:Value:=.func (.func 44) #[] #[]
theorem K0 (w:World):Kept (· < w.heap.size) w w:=Kept.refl _ w
theorem count_any (s:Value) (w:World):Calls Tryz.prog 44 #[s] w fun e w'=>e = .returned (.tuple #[])∧w=w':=by
 go_enter Tryz.func44,Tryz.ntmps44
 go_wp2
 go_end0
 exact ⟨rfl,rfl⟩
theorem getData_any (w:World):Calls Tryz.prog 124 #[.pointer none] w fun e w'=>e = .returned (.pointer (some ⟨w.heap.size,0,none⟩)) ∧
   w.alloc (.cells #[.bool false,.int .u8 0,.int .u8 0,.int .u32 0,.int .u32 0,.slice none 0 0] 215)=w':=by
 go_enter Tryz.func124,Tryz.ntmps124
 go_wp2
 go_ret
 exact ⟨rfl,rfl⟩
theorem streamError_any (i c:Int) (w:World):Calls Tryz.prog 127 #[.int .u32 i,.int .u32 c] w fun e w'=>e = .returned (.agg #[.int .u32 i,.int .u32 c,.nilIface]) ∧
   w.alloc (.cells #[.int .u32 i,.int .u32 c,.nilIface] 120)=w':=by
 go_enter Tryz.func127,Tryz.ntmps127
 go_wp2
 exact bodyPost_ret (v:=.agg #[.int .u32 i,.int .u32 c,.nilIface]) (by simp [results,Tryz.results127,go_sem]) rfl ⟨rfl,rfl⟩
theorem parseData_any {B:Nat} {aE aU aT:Addr} {w:World} (hV:GV B w aE aU aT) (ty fl ln st:Int) (hf0:0≤fl) (hf1:fl<256) (a:Option Addr) (n c:Nat) (b:List Int) (h:RdB w (.slice a n c) b) (hb:Bs b) :
   Calls Tryz.prog 109 #[.pointer none,hdV ty fl ln st,cntV,.slice a n c] w (Parsed aU w (parseData ⟨ty,fl,ln,st⟩ b)):=by
 by_cases hst:st=0
 · subst hst
   go_enter Tryz.func109,Tryz.ntmps109
   go_wp2_with (go_at_call 44;refine (count_any _ _).mono ?_;rintro e w' ⟨rfl,rfl⟩)
   go_ret2
   exact Parsed.connR rfl (((K0 w).alloc _).below (Nat.le_refl _))
 have hs:(st==0)=false:=beq_false_of_ne hst
 obtain ⟨hnb,hnc,hcm⟩:=h.len
 rw [←hnb] at hnc
 have hst:=Lib.hid hst
 have HB:=Lib.hid hnb
 clear hnb
 cases hbit:bitOf fl 8 with
 | false =>
   have hnn:¬(n:Int)<0:=by omega
   go_enter Tryz.func109,Tryz.ntmps109
   go_wp2_with (first
     | (go_at_call 44;refine (count_any _ _).mono ?_;rintro e w' ⟨rfl,rfl⟩)
     | (go_at_call 124;refine (getData_any _).mono ?_;rintro e w' ⟨rfl,rfl⟩)
     | (go_at_call 92;refine (has_any fl 8 (by simp) hf0 hf1 _).mono ?_;rintro e w' ⟨rfl,rfl⟩))
   go_ret2
   have hbel:Below w.heap.size w ((w.alloc (.cells #[.bool true,.int .u8 ty,.int .u8 fl,.int .u32 ln,.int .u32 st] 113)).alloc (.cells #[.bool true,.int .u8 ty,.int .u8 fl,.int .u32 ln,.int .u32 st,.slice a n c] 215)):=(((K0 w).alloc _).alloc _).below (Nat.le_refl _)
   refine Parsed.ok (FrV.data ⟨ty,fl,ln,st⟩ b (w.heap.size+1) _ (by omega) (blk_at _ _ (by simp)) (h.below hbel)) ?_ hbel
   unfold parseData
   rw [if_neg hst.out,hbit]
   rfl
 | true =>
   have hbx:Below w.heap.size w ((w.alloc (.cells #[.bool true,.int .u8 ty,.int .u8 fl,.int .u32 ln,.int .u32 st] 113)).alloc (.cells #[.bool true,.int .u8 ty,.int .u8 fl,.int .u32 ln,.int .u32 st,.slice none 0 0] 215)):=(((K0 w).alloc _).alloc _).below (Nat.le_refl _)
   have hrd:=h.below hbx
   by_cases hn:n=0
   · subst hn
     have hV2:=hV.below hbx
     go_enter Tryz.func109,Tryz.ntmps109
     go_wp2_with (first
       | (go_at_call 44;refine (count_any _ _).mono ?_;rintro e w' ⟨rfl,rfl⟩)
       | (go_at_call 124;refine (getData_any _).mono ?_;rintro e w' ⟨rfl,rfl⟩)
       | (go_at_call 92;refine (has_any fl 8 (by simp) hf0 hf1 _).mono ?_;rintro e w' ⟨rfl,rfl⟩)
       | (go_at_call 125;refine (readByte_none hV2 a c).mono ?_;rintro e w' ⟨rfl,nq,rfl⟩))
     go_ret2
     refine Parsed.cut ?_ ((((K0 w).alloc _).alloc _).drawn _ |>.below (Nat.le_refl _))
     have hb0:b = []:=List.eq_nil_of_length_eq_zero HB.out.symm
     unfold parseData
     rw [if_neg hst.out,hbit,hb0]
     rfl
   have hpos:0<n:=by omega
   have hx:=hb.at 0
   have hrun:=readByte_some hrd hpos
   have hr1:=(RdI.dropA h (n:=1) (by have:=HB.out;omega))
   obtain ⟨x,b',rfl⟩:∃x b',b=x::b':=by
     cases b with
     | nil=>have:=HB.out;simp at this;omega
     | cons x b'=>exact ⟨x,b',rfl⟩
   have hnb:n-1=b'.length:=by have:=HB.out;simp at this;omega
   have HN:=Lib.hid hnb
   clear hnb
   have e0:gb (x::b') 0=x:=rfl
   rw [e0] at hrun hx
   clear e0
   generalize dropA 1 c a=a1 at *
   obtain ⟨n',rfl⟩:∃n',n=n'+1:=⟨n-1,by omega⟩
   simp only [Nat.add_sub_cancel] at hrun hr1
   by_cases hp:(n':Int)<x
   · go_enter Tryz.func109,Tryz.ntmps109
     go_wp2_with (first
       | (go_at_call 44;refine (count_any _ _).mono ?_;rintro e w' ⟨rfl,rfl⟩)
       | (go_at_call 124;refine (getData_any _).mono ?_;rintro e w' ⟨rfl,rfl⟩)
       | (go_at_call 92;refine (has_any fl 8 (by simp) hf0 hf1 _).mono ?_;rintro e w' ⟨rfl,rfl⟩)
       | (go_at_call 125;refine hrun.mono ?_;rintro e w' ⟨rfl,nq,rfl⟩))
     go_ret2
     refine Parsed.connR ?_ ((((K0 w).alloc _).alloc _).drawn _ |>.below (Nat.le_refl _))
     unfold parseData
     have:=HN.out
     rw [if_neg hst.out,hbit]
     simp only [if_true]
     rw [if_pos (by omega)]
   · have hp2:¬x>(n':Int):=by omega
     have hcc:n'≤c-1:=by omega
     go_enter Tryz.func109,Tryz.ntmps109
     go_wp2_with (first
       | (go_at_call 44;refine (count_any _ _).mono ?_;rintro e w' ⟨rfl,rfl⟩)
       | (go_at_call 124;refine (getData_any _).mono ?_;rintro e w' ⟨rfl,rfl⟩)
       | (go_at_call 92;refine (has_any fl 8 (by simp) hf0 hf1 _).mono ?_;rintro e w' ⟨rfl,rfl⟩)
       | (go_at_call 125;refine hrun.mono ?_;rintro e w' ⟨rfl,nq,rfl⟩))
     go_ret2
     have e1:((n':Int)-x).toNat=n'-x.toNat:=by omega
     have hbel:Below w.heap.size w ((((w.alloc (.cells #[.bool true,.int .u8 ty,.int .u8 fl,.int .u32 ln,.int .u32 st] 113)).alloc (.cells #[.bool true,.int .u8 ty,.int .u8 fl,.int .u32 ln,.int .u32 st,.slice none 0 0] 215)).drewN nq).setCell ⟨w.heap.size+1,5,none⟩ (.slice a1 ((n':Int)-x).toNat (c-1))):=(((((K0 w).alloc _).alloc _).drawn _).setCell (by simp) _).below (Nat.le_refl _)
     refine Parsed.ok (FrV.data ⟨ty,fl,ln,st⟩ (b'.take ((n':Int)-x).toNat) (w.heap.size+1) (.slice a1 ((n':Int)-x).toNat (c-1)) (by omega) (blk_set (blk_at _ _ (by simp)) 5 _) ((hr1.take (by omega)).below hbel)) ?_ hbel
     rw [e1]
     unfold parseData
     have:=HN.out
     rw [if_neg hst.out,hbit]
     simp only [if_true]
     rw [if_neg (by omega),←this]
     rfl
end Go.Proofs.YtfdlbjibninakaaGreatDoor

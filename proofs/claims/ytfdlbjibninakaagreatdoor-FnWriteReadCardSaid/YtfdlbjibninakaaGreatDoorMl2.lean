/- The laws of reading, over the plain models alone: what is read is what is wanted; frames behind others; the reserved bit; unknown frames. No program stands here. -/
import Derived.Test.YtfdlbjibninakaaGreatDoorBase
set_option linter.unusedVariables false
set_option linter.unusedSimpArgs false
namespace Go.Proofs.YtfdlbjibninakaaGreatDoor.Pl
def Byt (b:List Int):Prop := ∀x∈b,0≤x∧x<256
def eitherR (stream size:Bool):Rs:=if stream&&size then .bad 7 0 0 else if stream then .bad 4 1 0 else .bad 4 6 0
def sAck (h:Hd) (b:List Int):Bool:=bitOf h.fl 1&&decide (0<b.length)
def sMod (b:List Int):Bool:=decide (b.length%6≠0)
def big4 (p:Int × Int):Bool:=p.1==4&&decide (2147483647<p.2)
def wins (l:List (Int × Int)):Nat:=(l.filter (fun p=>p.1==4)).length
def sSettings (h:Hd) (b:List Int):Rs:=
 if decide (h.st≠0)||sAck h b||sMod b then eitherR (decide (h.st≠0)) (sAck h b||sMod b)
 else if (pairs (b.length / 6) b).any big4 then (if 1<wins (pairs (b.length / 6) b) then .bad (-1) 0 0 else .bad 4 3 0)
 else .ok { Fr.of h with set:=pairs (b.length / 6) b }
def sUnpad (h:Hd) (b:List Int):Option (List Int):=
 if bitOf h.fl 8 then
   match b with
   | []=>none
   | p::b=>if (b.length:Int)<p then none else some (b.take (b.length-p.toNat))
 else some b
def sFrag (h:Hd) (b:List Int):Rs:=
 match sUnpad h b with
 | none => .bad 7 0 0
 | some d =>
   if h.ty=5 then (if d.length<4 then .bad 7 0 0 else .ok { Fr.of h with pr:=n31 d 0,data:=d.drop 4 })
   else if bitOf h.fl 32 then (if d.length<5 then .bad 7 0 0 else .ok { Fr.of h with hp:=true,ex:=decide (2147483648≤n32 d 0),dep:=n31 d 0,wt:=gb d 4,data:=d.drop 5 })
   else .ok { Fr.of h with data:=d }
def sData (h:Hd) (b:List Int):Rs:=
 match sUnpad h b with
 | none=>if b.length=0 then .bad 7 0 0 else .bad 4 1 0
 | some d => .ok { Fr.of h with data:=d }
def sWindow (h:Hd) (b:List Int):Rs:=if n31 b 0=0 then (if h.st=0 then .bad 4 1 0 else .bad 5 1 h.st) else .ok { Fr.of h with inc:=n31 b 0 }
def sPrio (h:Hd) (b:List Int):Rs:=
 if b.length≠5 then .bad 7 0 0 else if h.st=0 then .bad 4 1 0
 else .ok { Fr.of h with ex:=decide (2147483648≤n32 b 0),dep:=n31 b 0,wt:=gb b 4 }
def sRst (h:Hd) (b:List Int):Rs:=
 if decide (h.st=0)||decide (b.length≠4) then eitherR (decide (h.st=0)) (decide (b.length≠4)) else .ok { Fr.of h with co:=n32 b 0 }
def sPing (h:Hd) (b:List Int):Rs:=
 if decide (h.st≠0)||decide (b.length≠8) then eitherR (decide (h.st≠0)) (decide (b.length≠8)) else .ok { Fr.of h with data:=b }
def sWin (h:Hd) (b:List Int):Rs:=if b.length≠4 then .bad 4 6 0 else sWindow h b
def sDat (h:Hd) (b:List Int):Rs:=if h.st=0 then .bad 4 1 0 else sData h b
def sHead (h:Hd) (b:List Int):Rs:=if h.st=0 then .bad 4 1 0 else sFrag h b
def sCont (h:Hd) (b:List Int):Rs:=if h.st=0 then .bad 4 1 0 else .ok { Fr.of h with data:=b }
def sGo (h:Hd) (b:List Int):Rs:=
 if decide (h.st≠0)||decide (b.length<8) then eitherR (decide (h.st≠0)) (decide (b.length<8)) else .ok { Fr.of h with la:=n31 b 0,co:=n32 b 4,data:=b.drop 8 }
def sUpd (h:Hd) (b:List Int):Rs:=
 if decide (h.st≠0)||decide (b.length<4) then eitherR (decide (h.st≠0)) (decide (b.length<4)) else if n31 b 0=0 then .bad 4 1 0 else .ok { Fr.of h with pr:=n31 b 0,data:=b.drop 4 }
def sUnk (h:Hd) (b:List Int):Rs:=.ok { Fr.of h with data:=b }
def sPayload (h:Hd) (b:List Int):Rs:=
 if h.ty=4 then sSettings h b
 else if h.ty=2 then sPrio h b
 else if h.ty=3 then sRst h b
 else if h.ty=6 then sPing h b
 else if h.ty=8 then sWin h b
 else if h.ty=0 then sDat h b
 else if h.ty=1∨h.ty=5 then sHead h b
 else if h.ty=9 then sCont h b
 else if h.ty=7 then sGo h b
 else if h.ty=16 then sUpd h b
 else sUnk h b
inductive SSt where
 | stop (l:List Rs) (whole:Bool)
 | go (r:Rs) (o:Int) (b:List Int)
def sAfter (o:Int) (h:Hd) (r:Rs) (rest:List Int):SSt:=
 if r.f<0 then .stop [] false
 else if ordBad o h then (if r.f=0 then .stop [.bad 4 1 0] true else .stop [.bad 7 0 0] false)
 else if r.f=7 then .stop [r] false
 else if r.f=4 then .stop [r] true
 else if r.f=0∧h.ty=5∧bitOf h.fl 4=false then .stop [r] false
 else .go r (if r.f=0 then nextO o h else o) rest
def sStep (m o:Int) (b:List Int):SSt:=
 if b.length<9 then .stop [cutOff b] true
 else if 0<m∧m<(hdOf b).ln then (if ordBad o (hdOf b) then .stop [.bad 7 0 0] false else .stop [.bad 3 0 0] true)
 else if ((b.drop 9).length:Int)<(hdOf b).ln then .stop [.bad 7 0 0] false
 else sAfter o (hdOf b) (sPayload (hdOf b) ((b.drop 9).take (hdOf b).ln.toNat)) ((b.drop 9).drop (hdOf b).ln.toNat)
theorem sAfter_go {o o':Int} {h:Hd} {r r':Rs} {rest b':List Int} (e:sAfter o h r rest = .go r' o' b'):r'=r∧b'=rest∧o'=(if r.f=0 then nextO o h else o)∧ordBad o h=false∧0≤r.f∧r.f≠7∧r.f≠4 ∧ ¬(r.f=0∧h.ty=5∧bitOf h.fl 4=false):=by
 unfold sAfter at e
 by_cases h1:r.f<0
 · rw [if_pos h1] at e;cases e
 rw [if_neg h1] at e
 by_cases h2:ordBad o h=true
 · rw [if_pos h2] at e;split at e<;>cases e
 rw [if_neg h2] at e
 by_cases h3:r.f=7
 · rw [if_pos h3] at e;cases e
 rw [if_neg h3] at e
 by_cases h4:r.f=4
 · rw [if_pos h4] at e;cases e
 rw [if_neg h4] at e
 by_cases h5:r.f=0∧h.ty=5∧bitOf h.fl 4=false
 · rw [if_pos h5] at e;cases e
 rw [if_neg h5] at e
 injection e with e1 e2 e3
 exact ⟨e1.symm,e3.symm,e2.symm,by simpa using h2,by omega,h3,h4,h5⟩
theorem sStep_go {m o o':Int} {b b':List Int} {r:Rs} (e:sStep m o b = .go r o' b'):9≤b.length ∧ ¬(0<m∧m<(hdOf b).ln)∧(hdOf b).ln≤((b.drop 9).length:Int) ∧
   sAfter o (hdOf b) (sPayload (hdOf b) ((b.drop 9).take (hdOf b).ln.toNat)) ((b.drop 9).drop (hdOf b).ln.toNat) = .go r o' b':=by
 unfold sStep at e
 by_cases h1:b.length<9
 · rw [if_pos h1] at e;cases e
 rw [if_neg h1] at e
 by_cases h2:0<m∧m<(hdOf b).ln
 · rw [if_pos h2] at e;split at e<;>cases e
 rw [if_neg h2] at e
 by_cases h3:((b.drop 9).length:Int)<(hdOf b).ln
 · rw [if_pos h3] at e;cases e
 rw [if_neg h3] at e
 exact ⟨by omega,h2,by omega,e⟩
theorem sStep_less {m o o':Int} {b b':List Int} {r:Rs} (e:sStep m o b = .go r o' b'):b'.length<b.length:=by
 obtain ⟨h1,-,-,h2⟩:=sStep_go e
 obtain ⟨-,rfl,-⟩:=sAfter_go h2
 simp only [List.length_drop]
 omega
def sRead (m o:Int) (b:List Int):List Rs × Bool:=
 match h:sStep m o b with
 | .stop l q=>(l,q)
 | .go r o' b'=>(r::(sRead m o' b').1,(sRead m o' b').2)
termination_by b.length
decreasing_by all_goals exact sStep_less h
theorem sRead_stop {m o:Int} {b:List Int} {l:List Rs} {q:Bool} (h:sStep m o b = .stop l q):sRead m o b=(l,q):=by
 rw [sRead];split
 · rename_i h';rw [h] at h';cases h';rfl
 · rename_i h';rw [h] at h';cases h'
theorem sRead_go {m o o':Int} {b b':List Int} {r:Rs} (h:sStep m o b = .go r o' b'):sRead m o b=(r::(sRead m o' b').1,(sRead m o' b').2):=by
 rw [sRead];split
 · rename_i h';rw [h] at h';cases h'
 · rename_i h';rw [h] at h';cases h';rfl
def EqR (w g:Rs):Prop:=(w.f=7∧g.f≠0)∨(w.f≠7∧w=g)
inductive Mat:Bool→List Rs→List Rs→Prop
 | nil (q:Bool):Mat q [] []
 | more (gs:List Rs):Mat false [] gs
 | cons (q:Bool) (w g:Rs) (ws gs:List Rs) (h:EqR w g) (hs:Mat q ws gs):Mat q (w::ws) (g::gs)
theorem EqR.same {w:Rs} (h:w.f≠7):EqR w w:=.inr ⟨h,rfl⟩
theorem Mat.same {q:Bool}:∀{l:List Rs},(∀r∈l,r.f≠7)→Mat q l l
 | [],_ => .nil q
 | r::l,h => .cons q r r l l (.same (h r (List.mem_cons_self ..))) (Mat.same fun x hx=>h x (List.mem_cons_of_mem _ hx))
theorem Mat.len {q:Bool} {ws gs:List Rs} (h:Mat q ws gs):ws.length≤gs.length∧(q=true→gs.length=ws.length):=by
 induction h with
 | nil q=>simp
 | more gs=>simp
 | cons q w g ws gs h hs ih=>simp only [List.length_cons];exact ⟨by omega,fun e=>by have:=ih.2 e;omega⟩
theorem Mat.at {q:Bool} {ws gs:List Rs} (h:Mat q ws gs):∀{j:Nat} {w:Rs},ws[j]? = some w → ∃g,gs[j]? = some g∧EqR w g:=by
 induction h with
 | nil q=>intro j w hj;simp at hj
 | more gs=>intro j w hj;simp at hj
 | cons q w g ws gs h hs ih =>
   intro j w' hj
   cases j with
   | zero=>simp at hj;subst hj;exact ⟨g,by simp,h⟩
   | succ j=>simp at hj;obtain ⟨g',h1,h2⟩:=ih hj;exact ⟨g',by simpa using h1,h2⟩
theorem Mat.stop7 {g:Rs} {gs:List Rs} (h:g.f≠0):Mat false [.bad 7 0 0] (g::gs):=.cons _ _ _ _ _ (.inl ⟨rfl,h⟩) (.more _)
theorem Mat.stop1 {q:Bool} {r:Rs} (h:r.f≠7):Mat q [r] [r]:=.cons _ _ _ _ _ (.same h) (.nil _)
end Go.Proofs.YtfdlbjibninakaaGreatDoor.Pl

namespace Go.Proofs.YtfdlbjibninakaaGreatDoor.Pl
theorem gb_bd {b:List Int} (hb:Byt b) (i:Nat):0≤gb b i∧gb b i<256:=by
 unfold gb
 rw [List.getD_eq_getElem?_getD]
 cases h:b[i]? with
 | none=>simp
 | some x=>exact hb x (List.mem_of_getElem? h)
theorem n16_bd {b:List Int} (hb:Byt b) (i:Nat):0≤n16 b i∧n16 b i<65536:=by
 have h0:=gb_bd hb i
 have h1:=gb_bd hb (i+1)
 unfold n16
 omega
theorem n32_bd {b:List Int} (hb:Byt b) (i:Nat):0≤n32 b i∧n32 b i<4294967296:=by
 have h0:=gb_bd hb i
 have h1:=gb_bd hb (i+1)
 have h2:=gb_bd hb (i+2)
 have h3:=gb_bd hb (i+3)
 unfold n32
 omega
theorem n31_bd {b:List Int} (i:Nat):0≤n31 b i∧n31 b i<2147483648:=by unfold n31;omega
theorem Byt.take {b:List Int} (h:Byt b) (n:Nat):Byt (b.take n):=fun x hx=>h x (List.mem_of_mem_take hx)
theorem Byt.drop {b:List Int} (h:Byt b) (n:Nat):Byt (b.drop n):=fun x hx=>h x (List.mem_of_mem_drop hx)
theorem Byt.app {a b:List Int} (h:Byt a) (g:Byt b):Byt (a++b):=fun x hx=>(List.mem_append.1 hx).elim (h x) (g x)
theorem gb_take (b:List Int) {k i:Nat} (h:i<k):gb (b.take k) i=gb b i:=by
 unfold gb
 rw [List.getD_eq_getElem?_getD,List.getD_eq_getElem?_getD,List.getElem?_take,if_pos h]
theorem n32_take (b:List Int) {k i:Nat} (h:i+3<k):n32 (b.take k) i=n32 b i:=by
 unfold n32
 rw [gb_take b (by omega),gb_take b (by omega),gb_take b (by omega),gb_take b h]
theorem n31_take (b:List Int) {k i:Nat} (h:i+3<k):n31 (b.take k) i=n31 b i:=by unfold n31;rw [n32_take b h]
theorem hdOf_bd {b:List Int} (hb:Byt b):(0≤(hdOf b).ty∧(hdOf b).ty<256)∧(0≤(hdOf b).fl∧(hdOf b).fl<256)∧(0≤(hdOf b).ln∧(hdOf b).ln<16777216)∧(0≤(hdOf b).st∧(hdOf b).st<2147483648):=by
 have h0:=gb_bd hb 0
 have h1:=gb_bd hb 1
 have h2:=gb_bd hb 2
 refine ⟨gb_bd hb 3,gb_bd hb 4,?_,n31_bd 5⟩
 show 0≤gb b 0*65536+gb b 1*256+gb b 2∧gb b 0*65536+gb b 1*256+gb b 2<16777216
 omega
def Fits (s p:Rs):Prop:=s.f = -1∨(s.f=7∧p.f≠0)∨(s.f≠7∧s.f ≠ -1∧s=p)
theorem Fits.any {p:Rs} (h:p.f≠0):Fits (.bad 7 0 0) p:=.inr (.inl ⟨rfl,h⟩)
theorem Fits.same {p:Rs} (h:p.f≠7) (h1:p.f ≠ -1):Fits p p:=.inr (.inr ⟨h,h1,rfl⟩)
theorem Fits.ok (x:Fr):Fits (.ok x) (.ok x):=.same (show (0:Int)≠7 by decide) (show (0:Int) ≠ -1 by decide)
theorem Fits.bad4 (c:Int):Fits (.bad 4 c 0) (.bad 4 c 0):=.same (show (4:Int)≠7 by decide) (show (4:Int) ≠ -1 by decide)
theorem b2:(Rs.bad 2 0 0).f≠0:=show (2:Int)≠0 by decide
theorem b4 (c:Int):(Rs.bad 4 c 0).f≠0:=show (4:Int)≠0 by decide
theorem b5 (s:Int):(Rs.bad 5 1 s).f≠0:=show (5:Int)≠0 by decide
theorem headEnd_bad {h:Hd} {x:Fr} {pad:Int} {b:List Int} (hp:(b.length:Int)<pad):(headEnd h x pad b).f≠0:=by
 unfold headEnd
 rw [if_pos hp]
 exact b5 _
theorem fits_headers (h:Hd) (b:List Int) (hb:Byt b) (h1:h.ty=1):Fits (sHead h b) (parseHeaders h b):=by
 unfold sHead parseHeaders
 by_cases hs:h.st=0
 · rw [if_pos hs,if_pos hs];exact .bad4 1
 rw [if_neg hs,if_neg hs]
 unfold sFrag sUnpad
 have h5:¬h.ty=5:=by omega
 cases h8:bitOf h.fl 8 with
 | false =>
   simp only [Bool.false_eq_true,if_false]
   rw [if_neg h5]
   unfold headPrio
   cases h32:bitOf h.fl 32 with
   | false =>
     simp only [Bool.false_eq_true,if_false]
     unfold headEnd
     rw [if_neg (by omega)]
     simp only [Int.toNat_zero,Nat.sub_zero,List.take_length]
     exact .ok _
   | true =>
     simp only [if_true]
     by_cases hl:b.length<5
     · rw [if_pos hl,if_pos hl];exact .any b2
     rw [if_neg hl,if_neg hl]
     unfold headEnd
     rw [if_neg (by omega)]
     simp only [Int.toNat_zero,Nat.sub_zero,List.take_length]
     exact .ok _
 | true =>
   simp only [if_true]
   cases b with
   | nil=>exact .any b2
   | cons p b =>
     have hp:=hb p (List.mem_cons_self ..)
     simp only
     by_cases hpl:(b.length:Int)<p
     · rw [if_pos hpl]
       refine .any ?_
       unfold headPrio
       cases h32:bitOf h.fl 32 with
       | false =>
         simp only [Bool.false_eq_true,if_false]
         exact headEnd_bad hpl
       | true =>
         simp only [if_true]
         by_cases hl:b.length<5
         · rw [if_pos hl];exact b2
         · rw [if_neg hl];exact headEnd_bad (by rw [List.length_drop];omega)
     rw [if_neg hpl]
     simp only
     rw [if_neg h5]
     unfold headPrio
     cases h32:bitOf h.fl 32 with
     | false =>
       simp only [Bool.false_eq_true,if_false]
       unfold headEnd
       rw [if_neg hpl]
       exact .ok _
     | true =>
       simp only [if_true]
       have htl:(b.take (b.length-p.toNat)).length=b.length-p.toNat:=by rw [List.length_take];omega
       by_cases hl:b.length-p.toNat<5
       · rw [if_pos (by rw [htl];exact hl)]
         refine .any ?_
         by_cases hl2:b.length<5
         · rw [if_pos hl2];exact b2
         · rw [if_neg hl2];exact headEnd_bad (by rw [List.length_drop];omega)
       rw [if_neg (by rw [htl];exact hl),if_neg (by omega)]
       unfold headEnd
       rw [if_neg (by rw [List.length_drop];omega),n32_take b (by omega),n31_take b (by omega),gb_take b (by omega)]
       have e:(b.take (b.length-p.toNat)).drop 5=(b.drop 5).take ((b.drop 5).length-p.toNat):=by
         rw [List.drop_take,List.length_drop]
         congr 1
         omega
       rw [e]
       exact .ok _
theorem fits_push (h:Hd) (b:List Int) (hb:Byt b) (h5:h.ty=5):Fits (sHead h b) (parsePush h b):=by
 unfold sHead parsePush
 by_cases hs:h.st=0
 · rw [if_pos hs,if_pos hs];exact .bad4 1
 rw [if_neg hs,if_neg hs]
 unfold sFrag sUnpad
 cases h8:bitOf h.fl 8 with
 | false =>
   simp only [Bool.false_eq_true,if_false]
   rw [if_pos h5]
   unfold pushEnd
   by_cases hl:b.length<4
   · rw [if_pos hl,if_pos hl];exact .any b2
   rw [if_neg hl,if_neg hl,if_neg (by omega)]
   have e:(b.drop 4).take (b.length-4-(0:Int).toNat)=b.drop 4:=by
     rw [List.take_of_length_le (by rw [List.length_drop];simp)]
   rw [e]
   exact .ok _
 | true =>
   simp only [if_true]
   cases b with
   | nil=>exact .any b2
   | cons p b =>
     have hp:=hb p (List.mem_cons_self ..)
     simp only
     unfold pushEnd
     by_cases hpl:(b.length:Int)<p
     · rw [if_pos hpl]
       refine .any ?_
       by_cases hl:b.length<4
       · rw [if_pos hl];exact b2
       · rw [if_neg hl,if_pos (by omega)];exact b4 1
     rw [if_neg hpl]
     simp only
     rw [if_pos h5]
     have htl:(b.take (b.length-p.toNat)).length=b.length-p.toNat:=by rw [List.length_take];omega
     by_cases hl:b.length-p.toNat<4
     · rw [if_pos (by rw [htl];exact hl)]
       refine .any ?_
       by_cases hl2:b.length<4
       · rw [if_pos hl2];exact b2
       · rw [if_neg hl2,if_pos (by omega)];exact b4 1
     rw [if_neg (by rw [htl];exact hl),if_neg (by omega),if_neg (by omega),n31_take b (by omega)]
     have e:(b.take (b.length-p.toNat)).drop 4=(b.drop 4).take (b.length-4-p.toNat):=by
       rw [List.drop_take]
       congr 1
       omega
     rw [e]
     exact .ok _
theorem fits_data (h:Hd) (b:List Int):Fits (sDat h b) (parseData h b):=by
 unfold sDat parseData
 by_cases hs:h.st=0
 · rw [if_pos hs,if_pos hs];exact .bad4 1
 rw [if_neg hs,if_neg hs]
 unfold sData sUnpad
 cases h8:bitOf h.fl 8 with
 | false=>exact .ok _
 | true =>
   simp only [if_true]
   cases b with
   | nil=>exact .any b2
   | cons p b =>
     simp only
     by_cases hpl:(b.length:Int)<p
     · rw [if_pos hpl,if_pos hpl]
       simp only
       rw [if_neg (by simp)]
       exact .bad4 1
     · rw [if_neg hpl,if_neg hpl]
       exact .ok _
theorem firstOf_big {l:List (Int × Int)}:2147483647<firstOf 4 l→l.any big4=true:=by
 unfold firstOf
 induction l with
 | nil=>intro h;simp at h
 | cons p l ih =>
   intro h
   rw [List.find?_cons] at h
   rw [List.any_cons,Bool.or_eq_true]
   by_cases hp:p.1=4
   · have e:(p.1==4)=true:=by simp [hp]
     rw [e] at h
     simp only [Option.map_some,Option.getD_some] at h
     left
     unfold big4
     rw [e]
     simpa using h
   · have e:(p.1==4)=false:=by simp [hp]
     rw [e] at h
     exact .inr (ih h)
theorem big_firstOf {l:List (Int × Int)}:l.any big4=true → ¬1<wins l→2147483647<firstOf 4 l:=by
 unfold firstOf wins
 induction l with
 | nil=>intro h;simp at h
 | cons p l ih =>
   intro h hw
   rw [List.find?_cons]
   rw [List.any_cons,Bool.or_eq_true] at h
   by_cases hp:p.1=4
   · have e:(p.1==4)=true:=by simp [hp]
     rw [List.filter_cons,if_pos e,List.length_cons] at hw
     rw [e]
     simp only [Option.map_some,Option.getD_some]
     rcases h with h|h
     · unfold big4 at h
       rw [e] at h
       simpa using h
     · exfalso
       rw [List.any_eq_true] at h
       obtain ⟨q,hq,hb⟩:=h
       have hqf:q∈l.filter (fun p=>p.1==4):=List.mem_filter.2 ⟨hq,by unfold big4 at hb;simp at hb;simp [hb.1]⟩
       have:=List.length_pos_of_mem hqf
       omega
   · have e:(p.1==4)=false:=by simp [hp]
     rw [List.filter_cons,if_neg (by simp [e])] at hw
     rw [e]
     rcases h with h|h
     · unfold big4 at h
       rw [e] at h
       simp at h
     · exact ih h hw
theorem fits_settings (h:Hd) (b:List Int) (hl:(b.length:Int)=h.ln):Fits (sSettings h b) (parseSettings h b):=by
 unfold sSettings parseSettings
 by_cases ha:bitOf h.fl 1=true∧0<h.ln
 · have e:sAck h b=true:=by unfold sAck;rw [ha.1];simp;omega
   rw [if_pos (by simp [e]),if_pos ha,e]
   unfold eitherR
   by_cases hs:h.st=0
   · simp [hs];exact .bad4 6
   · simp [hs];exact .any (by decide)
 have e:sAck h b=false:=by
   unfold sAck
   cases h1:bitOf h.fl 1 with
   | false=>rfl
   | true=>have:¬0<h.ln:=fun h2=>ha ⟨h1,h2⟩;rw [Bool.true_and];exact decide_eq_false (by omega)
 rw [if_neg ha,e]
 by_cases hs:h.st=0
 · have d1:decide (h.st≠0)=false:=by simp [hs]
   rw [d1,if_neg (show ¬h.st≠0 by simp [hs])]
   by_cases hm:b.length%6≠0
   · have d2:sMod b=true:=by unfold sMod;simpa using hm
     rw [d2,if_pos hm]
     simp only [Bool.or_true,if_true]
     unfold eitherR
     simp only [Bool.false_and,Bool.false_eq_true,if_false]
     exact .bad4 6
   · have d2:sMod b=false:=by unfold sMod;simpa using hm
     rw [d2,if_neg hm]
     simp only [Bool.or_false,Bool.false_eq_true,if_false]
     by_cases hb:(pairs (b.length / 6) b).any big4=true
     · rw [if_pos hb]
       by_cases hw:1<wins (pairs (b.length / 6) b)
       · rw [if_pos hw];exact .inl rfl
       · rw [if_neg hw,if_pos (big_firstOf hb hw)];exact .bad4 3
     · rw [if_neg hb,if_neg (fun hf=>hb (firstOf_big hf))]
       exact .ok _
 · have d1:decide (h.st≠0)=true:=by simp [hs]
   rw [d1,if_pos (show h.st≠0 from hs)]
   simp only [Bool.true_or,if_true,Bool.false_or]
   unfold eitherR
   cases d2:sMod b with
   | true=>simp only [Bool.and_self,if_true];exact .any (by decide)
   | false=>simp only [Bool.and_false,Bool.false_eq_true,if_false,if_true];exact .bad4 1
theorem fits_prio (h:Hd) (b:List Int):Fits (sPrio h b) (parsePriority h b):=by
 unfold sPrio parsePriority
 by_cases h5:b.length≠5
 · rw [if_pos h5]
   refine .any ?_
   by_cases hs:h.st=0
   · rw [if_pos hs];exact b4 1
   · rw [if_neg hs,if_pos h5];exact b4 6
 · rw [if_neg h5]
   by_cases hs:h.st=0
   · rw [if_pos hs,if_pos hs];exact .bad4 1
   · rw [if_neg hs,if_neg hs,if_neg h5];exact .ok _
theorem fits_rst (h:Hd) (b:List Int):Fits (sRst h b) (parseRst h b):=by
 unfold sRst parseRst eitherR
 by_cases h5:b.length=4<;>by_cases hs:h.st=0<;>simp [h5,hs]
 · exact .bad4 1
 · exact .ok _
 · exact .any (b4 6)
 · exact .bad4 6
theorem fits_ping (h:Hd) (b:List Int):Fits (sPing h b) (parsePing h b):=by
 unfold sPing parsePing eitherR
 by_cases h5:b.length=8<;>by_cases hs:h.st=0<;>simp [h5,hs]
 · exact .ok _
 · exact .bad4 1
 · exact .bad4 6
 · exact .any (b4 6)
theorem fits_win (h:Hd) (b:List Int):Fits (sWin h b) (parseWindow h b):=by
 unfold sWin parseWindow sWindow
 by_cases h5:b.length=4<;>simp [h5]
 · by_cases hi:n31 b 0=0<;>by_cases hs:h.st=0<;>simp [hi,hs]
   · exact .bad4 1
   · exact .same (show (5:Int)≠7 by decide) (show (5:Int) ≠ -1 by decide)
   · exact .ok _
   · exact .ok _
 · exact .bad4 6
theorem fits_go (h:Hd) (b:List Int):Fits (sGo h b) (parseGoAway h b):=by
 unfold sGo parseGoAway eitherR
 by_cases hl5:b.length<8<;>by_cases hs:h.st=0<;>simp [hl5,hs]
 · exact .bad4 6
 · exact .any (b4 1)
 · exact .ok _
 · exact .bad4 1
theorem fits_upd (h:Hd) (b:List Int):Fits (sUpd h b) (parseUpdate h b):=by
 unfold sUpd parseUpdate eitherR
 by_cases hl5:b.length<4<;>by_cases hs:h.st=0<;>simp [hl5,hs]
 · exact .bad4 6
 · exact .any (b4 1)
 · by_cases hi:n31 b 0=0<;>simp [hi]
   · exact .bad4 1
   · exact .ok _
 · exact .bad4 1
theorem fits_cont (h:Hd) (b:List Int):Fits (sCont h b) (parseCont h b):=by
 unfold sCont parseCont
 by_cases hs:h.st=0
 · rw [if_pos hs];exact .bad4 1
 · rw [if_neg hs];exact .ok _
theorem fits_payload (h:Hd) (b:List Int) (hb:Byt b) (hl:(b.length:Int)=h.ln):Fits (sPayload h b) (parse h b):=by
 unfold sPayload parse
 by_cases h4:h.ty=4
 · simp only [h4];exact fits_settings h b hl
 by_cases h2:h.ty=2
 · simp only [h2];exact fits_prio h b
 by_cases h3:h.ty=3
 · simp only [h3];exact fits_rst h b
 by_cases h6:h.ty=6
 · simp only [h6];exact fits_ping h b
 by_cases h8:h.ty=8
 · simp only [h8];exact fits_win h b
 by_cases h0:h.ty=0
 · simp only [h0];exact fits_data h b
 by_cases h1:h.ty=1
 · have:=fits_headers h b hb h1;simp only [h1];exact this
 by_cases h5:h.ty=5
 · have:=fits_push h b hb h5;simp only [h5];exact this
 by_cases h9:h.ty=9
 · simp only [h9];exact fits_cont h b
 by_cases h7:h.ty=7
 · simp only [h7];exact fits_go h b
 by_cases h16:h.ty=16
 · simp only [h16];exact fits_upd h b
 simp only [h0,h1,h2,h3,h4,h5,h6,h7,h8,h9,h16,if_false,or_self]
 exact .ok _
end Go.Proofs.YtfdlbjibninakaaGreatDoor.Pl

namespace Go.Proofs.YtfdlbjibninakaaGreatDoor.Pl
def sF (h:Hd) (r:Rs):Prop:=(r.f=0∧r.c=0∧r.s=0∧r.x.ty=h.ty∧r.x.fl=h.fl∧(h.ty=1∨h.ty=9→h.st≠0))∨r.f=4∨r.f=7∨r.f = -1∨(r.f=5∧h.ty=8)
theorem sF_bad4 (h:Hd) (c:Int):sF h (.bad 4 c 0):=.inr (.inl rfl)
theorem sF_bad7 (h:Hd):sF h (.bad 7 0 0):=.inr (.inr (.inl rfl))
theorem sF_ok {h:Hd} {x:Fr} (h1:x.ty=h.ty) (h2:x.fl=h.fl) (h3:h.ty=1∨h.ty=9→h.st≠0):sF h (.ok x):=.inl ⟨rfl,rfl,rfl,h1,h2,h3⟩
theorem sF_either (h:Hd) (p q:Bool):sF h (eitherR p q):=by
 unfold eitherR
 cases p<;>cases q
 · exact sF_bad4 h 6
 · exact sF_bad4 h 6
 · exact sF_bad4 h 1
 · exact sF_bad7 h
theorem sPayload_sF (h:Hd) (b:List Int):sF h (sPayload h b):=by
 unfold sPayload
 by_cases h4:h.ty=4
 · rw [if_pos h4]
   unfold sSettings
   split
   · exact sF_either ..
   split
   · split
     · exact .inr (.inr (.inr (.inl rfl)))
     · exact sF_bad4 h 3
   · exact sF_ok rfl rfl (by omega)
 rw [if_neg h4]
 by_cases h2:h.ty=2
 · rw [if_pos h2]
   unfold sPrio
   split
   · exact sF_bad7 h
   split
   · exact sF_bad4 h 1
   · exact sF_ok rfl rfl (by omega)
 rw [if_neg h2]
 by_cases h3:h.ty=3
 · rw [if_pos h3]
   unfold sRst
   split
   · exact sF_either ..
   · exact sF_ok rfl rfl (by omega)
 rw [if_neg h3]
 by_cases h6:h.ty=6
 · rw [if_pos h6]
   unfold sPing
   split
   · exact sF_either ..
   · exact sF_ok rfl rfl (by omega)
 rw [if_neg h6]
 by_cases h8:h.ty=8
 · rw [if_pos h8]
   unfold sWin
   split
   · exact sF_bad4 h 6
   unfold sWindow
   split
   · split
     · exact sF_bad4 h 1
     · exact .inr (.inr (.inr (.inr ⟨rfl,h8⟩)))
   · exact sF_ok rfl rfl (by omega)
 rw [if_neg h8]
 by_cases h0:h.ty=0
 · rw [if_pos h0]
   unfold sDat
   split
   · exact sF_bad4 h 1
   unfold sData
   split
   · split
     · exact sF_bad7 h
     · exact sF_bad4 h 1
   · exact sF_ok rfl rfl (by omega)
 rw [if_neg h0]
 by_cases h1:h.ty=1∨h.ty=5
 · rw [if_pos h1]
   unfold sHead
   split
   · exact sF_bad4 h 1
   rename_i hs
   unfold sFrag
   split
   · exact sF_bad7 h
   split
   · split
     · exact sF_bad7 h
     · exact sF_ok rfl rfl (fun _=>hs)
   split
   · split
     · exact sF_bad7 h
     · exact sF_ok rfl rfl (fun _=>hs)
   · exact sF_ok rfl rfl (fun _=>hs)
 rw [if_neg h1]
 by_cases h9:h.ty=9
 · rw [if_pos h9]
   unfold sCont
   split
   · exact sF_bad4 h 1
   rename_i hs
   exact sF_ok rfl rfl (fun _=>hs)
 rw [if_neg h9]
 by_cases h7:h.ty=7
 · rw [if_pos h7]
   unfold sGo
   split
   · exact sF_either ..
   · exact sF_ok rfl rfl (by omega)
 rw [if_neg h7]
 by_cases h16:h.ty=16
 · rw [if_pos h16]
   unfold sUpd
   split
   · exact sF_either ..
   split
   · exact sF_bad4 h 1
   · exact sF_ok rfl rfl (by omega)
 rw [if_neg h16]
 exact sF_ok rfl rfl (by omega)
theorem cutOff_f (b:List Int):((cutOff b).f=1∧b = [])∨(cutOff b).f=2:=by
 unfold cutOff
 by_cases h:b.length=0
 · rw [if_pos h];exact .inl ⟨rfl,List.eq_nil_of_length_eq_zero h⟩
 · rw [if_neg h];exact .inr rfl
theorem one_short {m o:Int} {b:List Int} (h:b.length<9):readAll m o b = [cutOff b]:=by
 have e:one m o b=(cutOff b,o,[]):=by unfold one;rw [if_pos h]
 rw [readAll_stop (by rw [e];exact cutOff_stops b),e]
theorem one_large {m o:Int} {b:List Int} (h:9≤b.length) (hm:m<(hdOf b).ln):readAll m o b = [.bad 3 0 0]:=by
 have e:one m o b=(.bad 3 0 0,o,b.drop 9):=by unfold one;rw [if_neg (by omega),if_pos hm]
 rw [readAll_stop (by rw [e];rfl),e]
theorem one_ord {m o:Int} {b:List Int} (h:9≤b.length) (hm:(hdOf b).ln≤m) (ho:ordBad o (hdOf b)=true):readAll m o b = [.bad 4 1 0]:=by
 have e:one m o b=(.bad 4 1 0,o,b.drop 9):=by unfold one;rw [if_neg (by omega),if_neg (by omega),if_pos ho]
 rw [readAll_stop (by rw [e];rfl),e]
theorem one_cut {m o:Int} {b:List Int} (h:9≤b.length) (hm:(hdOf b).ln≤m) (ho:ordBad o (hdOf b)=false) (hl:((b.drop 9).length:Int)<(hdOf b).ln):readAll m o b = [cutOff (b.drop 9)]:=by
 have e:one m o b=(cutOff (b.drop 9),nextO o (hdOf b),[]):=by unfold one;rw [if_neg (by omega),if_neg (by omega),if_neg (by simp [ho]),if_pos hl]
 rw [readAll_stop (by rw [e];exact cutOff_stops _),e]
theorem one_parse {m o:Int} {b:List Int} (h:9≤b.length) (hm:(hdOf b).ln≤m) (ho:ordBad o (hdOf b)=false) (hl:(hdOf b).ln≤((b.drop 9).length:Int)) :
   one m o b=(parse (hdOf b) ((b.drop 9).take (hdOf b).ln.toNat),nextO o (hdOf b),(b.drop 9).drop (hdOf b).ln.toNat):=by
 unfold one;rw [if_neg (by omega),if_neg (by omega),if_neg (by simp [ho]),if_neg (by omega)]
theorem one_stop {m o:Int} {b:List Int} (h:9≤b.length) (hm:(hdOf b).ln≤m) (ho:ordBad o (hdOf b)=false) (hl:(hdOf b).ln≤((b.drop 9).length:Int)) {p:Rs} (hp:parse (hdOf b) ((b.drop 9).take (hdOf b).ln.toNat)=p) (hg:p.going=false) :
   readAll m o b = [p]:=by
 have e:=one_parse h hm ho hl
 rw [readAll_stop (by rw [e,hp];exact hg),e,hp]
theorem one_go {m o:Int} {b:List Int} (h:9≤b.length) (hm:(hdOf b).ln≤m) (ho:ordBad o (hdOf b)=false) (hl:(hdOf b).ln≤((b.drop 9).length:Int)) {p:Rs} (hp:parse (hdOf b) ((b.drop 9).take (hdOf b).ln.toNat)=p) (hg:p.going=true) :
   readAll m o b=p::readAll m (nextO o (hdOf b)) ((b.drop 9).drop (hdOf b).ln.toNat):=by
 have e:=one_parse h hm ho hl
 rw [readAll_go (by rw [e,hp];exact hg),e,hp]
theorem one_any {m o:Int} {b:List Int} (h:9≤b.length) (hm:(hdOf b).ln≤m) (ho:ordBad o (hdOf b)=false) (hl:(hdOf b).ln≤((b.drop 9).length:Int)) {p:Rs} (hp:parse (hdOf b) ((b.drop 9).take (hdOf b).ln.toNat)=p):∃gs,readAll m o b=p::gs:=by
 cases hg:p.going with
 | false=>exact ⟨_,one_stop h hm ho hl hp hg⟩
 | true=>exact ⟨_,one_go h hm ho hl hp hg⟩
theorem pay_len {b:List Int} (h0:0≤(hdOf b).ln) (hl:(hdOf b).ln≤((b.drop 9).length:Int)):(((b.drop 9).take (hdOf b).ln.toNat).length:Int)=(hdOf b).ln:=by
 rw [List.length_take]
 omega
theorem ln_bd {b:List Int} (hb:Byt b):0≤(hdOf b).ln∧(hdOf b).ln≤16777215:=by have:=(hdOf_bd hb).2.2.1;omega
def MaxOk (m M:Int):Prop:=(0<m∧M=m)∨(¬0<m∧16777215≤M)
theorem going_of {p:Rs} (h:p.f=0∨p.f=5):p.going=true:=by unfold Rs.going;exact decide_eq_true h
theorem stops_of {p:Rs} (h:p.f≠0) (h5:p.f≠5):p.going=false:=by unfold Rs.going;exact decide_eq_false (by omega)
theorem nextO_keep {o:Int} {h:Hd} (h8:h.ty=8):nextO o h=o:=by unfold nextO;rw [if_neg (by omega)]
theorem read_mat {m M:Int} (hM:MaxOk m M) (n:Nat):∀(b:List Int),b.length=n→Byt b → ∀o,Mat (sRead m o b).2 (sRead m o b).1 (readAll M o b):=by
 induction n using Nat.strongRecOn with
 | _ n ih =>
   intro b hn hb o
   have hln:=ln_bd hb
   cases hS:sStep m o b with
   | stop l q =>
     rw [sRead_stop hS]
     show Mat q l _
     unfold sStep at hS
     by_cases h1:b.length<9
     · rw [if_pos h1] at hS;cases hS
       rw [one_short h1]
       exact Mat.stop1 (by rcases cutOff_f b with h|h<;>omega)
     rw [if_neg h1] at hS
     by_cases h2:0<m∧m<(hdOf b).ln
     · rw [if_pos h2] at hS
       have hm:M=m:=by rcases hM with h|h<;>omega
       rw [one_large (by omega) (by omega)]
       split at hS
       · cases hS;exact Mat.stop7 (by decide)
       · cases hS;exact Mat.stop1 (by decide)
     rw [if_neg h2] at hS
     have hlM:(hdOf b).ln≤M:=by rcases hM with h|h<;>omega
     by_cases h3:((b.drop 9).length:Int)<(hdOf b).ln
     · rw [if_pos h3] at hS;cases hS
       cases ho:ordBad o (hdOf b) with
       | true=>rw [one_ord (by omega) hlM ho];exact Mat.stop7 (by decide)
       | false=>rw [one_cut (by omega) hlM ho h3];exact Mat.stop7 (by rcases cutOff_f (b.drop 9) with h|h<;>omega)
     rw [if_neg h3] at hS
     have hfit:=fits_payload (hdOf b) ((b.drop 9).take (hdOf b).ln.toNat) ((hb.drop 9).take _) (pay_len hln.1 (by omega))
     unfold sAfter at hS
     by_cases h4:(sPayload (hdOf b) ((b.drop 9).take (hdOf b).ln.toNat)).f<0
     · rw [if_pos h4] at hS;cases hS;exact Mat.more _
     rw [if_neg h4] at hS
     cases ho:ordBad o (hdOf b) with
     | true =>
       rw [one_ord (by omega) hlM ho]
       rw [ho,if_pos rfl] at hS
       split at hS
       · cases hS;exact Mat.stop1 (by decide)
       · cases hS;exact Mat.stop7 (by decide)
     | false =>
       rw [ho,if_neg (by decide)] at hS
       generalize hp:parse (hdOf b) ((b.drop 9).take (hdOf b).ln.toNat)=p at hfit
       by_cases h7:(sPayload (hdOf b) ((b.drop 9).take (hdOf b).ln.toNat)).f=7
       · rw [if_pos h7] at hS;cases hS
         obtain ⟨gs,hg⟩:=one_any (m:=M) (o:=o) (by omega) hlM ho (by omega) hp
         rw [hg]
         refine .cons _ _ _ _ _ (.inl ⟨h7,?_⟩) (.more _)
         rcases hfit with h|h|h
         · omega
         · exact h.2
         · omega
       rw [if_neg h7] at hS
       have hsp:sPayload (hdOf b) ((b.drop 9).take (hdOf b).ln.toNat)=p:=by
         rcases hfit with h|h|h
         · omega
         · omega
         · exact h.2.2
       rw [hsp] at hS h7 h4
       by_cases h5:p.f=4
       · rw [if_pos h5] at hS;cases hS
         rw [one_stop (by omega) hlM ho (by omega) hp (stops_of (by omega) (by omega))]
         exact Mat.stop1 h7
       rw [if_neg h5] at hS
       split at hS
       · cases hS
         rename_i hq
         rw [one_go (by omega) hlM ho (by omega) hp (going_of (.inl hq.1))]
         exact .cons _ _ _ _ _ (.same h7) (.more _)
       · cases hS
   | go r o' b' =>
     rw [sRead_go hS]
     have hless:=sStep_less hS
     obtain ⟨h1,h2,h3,hA⟩:=sStep_go hS
     obtain ⟨hr,rfl,ho',ho,hf0,hf7,hf4,-⟩:=sAfter_go hA
     have hlM:(hdOf b).ln≤M:=by rcases hM with h|h<;>omega
     have hfit:=fits_payload (hdOf b) ((b.drop 9).take (hdOf b).ln.toNat) ((hb.drop 9).take _) (pay_len hln.1 h3)
     have hsF:=sPayload_sF (hdOf b) ((b.drop 9).take (hdOf b).ln.toNat)
     rw [←hr] at hfit hsF hf0 hf7 hf4 ho'
     have hp:parse (hdOf b) ((b.drop 9).take (hdOf b).ln.toNat)=r:=by
       rcases hfit with h|h|h
       · omega
       · omega
       · exact h.2.2.symm
     have hf:r.f=0∨(r.f=5∧(hdOf b).ty=8):=by
       rcases hsF with h|h|h|h|h
       · exact .inl h.1
       · omega
       · omega
       · omega
       · exact .inr h
     have hoo:o'=nextO o (hdOf b):=by
       rcases hf with h|h
       · rw [ho',if_pos h]
       · rw [ho',if_neg (by omega),nextO_keep h.2]
     rw [one_go h1 hlM ho h3 hp (going_of (by omega)),←hoo]
     exact .cons _ _ _ _ _ (.same hf7) (ih _ (by omega) _ rfl ((hb.drop 9).drop _) o')
end Go.Proofs.YtfdlbjibninakaaGreatDoor.Pl

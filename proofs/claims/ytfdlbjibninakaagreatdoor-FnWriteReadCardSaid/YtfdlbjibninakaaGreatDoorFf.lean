/- Reading: what the steps of ReadFrameForHeader leave of the framer's state. -/
import Derived.Test.YtfdlbjibninakaaGreatDoorPs7
import Derived.Test.YtfdlbjibninakaaGreatDoorPs5
import Derived.Test.YtfdlbjibninakaaGreatDoorPs8
import Derived.Test.YtfdlbjibninakaaGreatDoorFh2
set_option linter.unusedVariables false
set_option linter.unusedSimpArgs false
namespace Go.Proofs.YtfdlbjibninakaaGreatDoor
open Go.RowKit
def parserF (ty:Int):Nat:=
 if ty=0 then 109 else if ty=1 then 110 else if ty=2 then 111 else if ty=3 then 112 else if ty=4 then 113 else if ty=5 then 114 else if ty=6 then 115 else if ty=7 then 116 else if ty=8 then 117 else if ty=9 then 118 else if ty=16 then 119 else 120
theorem parse_any {B:Nat} {aE aU aT:Addr} {w:World} (hV:GV B w aE aU aT) (ty fl ln st:Int) (hf0:0≤fl) (hf1:fl<256) (a:Option Addr) (n c:Nat) (b:List Int) (h:RdB w (.slice a n c) b) (hb:Bs b) :
   Calls Tryz.prog (parserF ty) #[.pointer none,hdV ty fl ln st,cntV,.slice a n c] w (Parsed aU w (parse ⟨ty,fl,ln,st⟩ b)):=by
 unfold parserF parse
 by_cases h0:ty=0
 · subst h0
   exact parseData_any hV _ fl ln st hf0 hf1 a n c b h hb
 rw [if_neg h0,if_neg h0]
 by_cases h1:ty=1
 · subst h1
   exact parseHeaders_any hV _ fl ln st hf0 hf1 a n c b h hb
 rw [if_neg h1,if_neg h1]
 by_cases h2:ty=2
 · subst h2
   exact parsePriority_any hV _ fl ln st hf0 hf1 a n c b h hb
 rw [if_neg h2,if_neg h2]
 by_cases h3:ty=3
 · subst h3
   exact parseRst_any hV _ fl ln st hf0 hf1 a n c b h hb
 rw [if_neg h3,if_neg h3]
 by_cases h4:ty=4
 · subst h4
   exact parseSettings_any hV _ fl ln st hf0 hf1 a n c b h hb
 rw [if_neg h4,if_neg h4]
 by_cases h5:ty=5
 · subst h5
   exact parsePush_any hV _ fl ln st hf0 hf1 a n c b h hb
 rw [if_neg h5,if_neg h5]
 by_cases h6:ty=6
 · subst h6
   exact parsePing_any hV _ fl ln st hf0 hf1 a n c b h hb
 rw [if_neg h6,if_neg h6]
 by_cases h7:ty=7
 · subst h7
   exact parseGoAway_any hV _ fl ln st hf0 hf1 a n c b h hb
 rw [if_neg h7,if_neg h7]
 by_cases h8:ty=8
 · subst h8
   exact parseWindow_any hV _ fl ln st hf0 hf1 a n c b h hb
 rw [if_neg h8,if_neg h8]
 by_cases h9:ty=9
 · subst h9
   exact parseCont_any hV _ fl ln st hf0 hf1 a n c b h hb
 rw [if_neg h9,if_neg h9]
 by_cases h16:ty=16
 · subst h16
   exact parseUpdate_any hV _ fl ln st hf0 hf1 a n c b h hb
 rw [if_neg h16,if_neg h16]
 exact parseUnknown_any hV ty fl ln st hf0 hf1 a n c b h hb
theorem typeParser_any (ty:Int) (w:World):Calls Tryz.prog 83 #[.int .u8 ty] w fun e w'=>e = .returned (.func (.func (parserF ty)) #[] #[])∧w=w':=by
 unfold parserF
 by_cases h0:ty=0
 · subst h0
   go_enter Tryz.func83,Tryz.ntmps83
   go_wp2
   go_ret
   exact ⟨rfl,rfl⟩
 rw [if_neg h0]
 have b0:(ty==0)=false:=beq_false_of_ne h0
 by_cases h1:ty=1
 · subst h1
   go_enter Tryz.func83,Tryz.ntmps83
   go_wp2
   go_ret
   exact ⟨rfl,rfl⟩
 rw [if_neg h1]
 have b1:(ty==1)=false:=beq_false_of_ne h1
 by_cases h2:ty=2
 · subst h2
   go_enter Tryz.func83,Tryz.ntmps83
   go_wp2
   go_ret
   exact ⟨rfl,rfl⟩
 rw [if_neg h2]
 have b2:(ty==2)=false:=beq_false_of_ne h2
 by_cases h3:ty=3
 · subst h3
   go_enter Tryz.func83,Tryz.ntmps83
   go_wp2
   go_ret
   exact ⟨rfl,rfl⟩
 rw [if_neg h3]
 have b3:(ty==3)=false:=beq_false_of_ne h3
 by_cases h4:ty=4
 · subst h4
   go_enter Tryz.func83,Tryz.ntmps83
   go_wp2
   go_ret
   exact ⟨rfl,rfl⟩
 rw [if_neg h4]
 have b4:(ty==4)=false:=beq_false_of_ne h4
 by_cases h5:ty=5
 · subst h5
   go_enter Tryz.func83,Tryz.ntmps83
   go_wp2
   go_ret
   exact ⟨rfl,rfl⟩
 rw [if_neg h5]
 have b5:(ty==5)=false:=beq_false_of_ne h5
 by_cases h6:ty=6
 · subst h6
   go_enter Tryz.func83,Tryz.ntmps83
   go_wp2
   go_ret
   exact ⟨rfl,rfl⟩
 rw [if_neg h6]
 have b6:(ty==6)=false:=beq_false_of_ne h6
 by_cases h7:ty=7
 · subst h7
   go_enter Tryz.func83,Tryz.ntmps83
   go_wp2
   go_ret
   exact ⟨rfl,rfl⟩
 rw [if_neg h7]
 have b7:(ty==7)=false:=beq_false_of_ne h7
 by_cases h8:ty=8
 · subst h8
   go_enter Tryz.func83,Tryz.ntmps83
   go_wp2
   go_ret
   exact ⟨rfl,rfl⟩
 rw [if_neg h8]
 have b8:(ty==8)=false:=beq_false_of_ne h8
 by_cases h9:ty=9
 · subst h9
   go_enter Tryz.func83,Tryz.ntmps83
   go_wp2
   go_ret
   exact ⟨rfl,rfl⟩
 rw [if_neg h9]
 have b9:(ty==9)=false:=beq_false_of_ne h9
 by_cases h16:ty=16
 · subst h16
   go_enter Tryz.func83,Tryz.ntmps83
   go_wp2
   go_ret
   exact ⟨rfl,rfl⟩
 rw [if_neg h16]
 have b16:(ty==16)=false:=beq_false_of_ne h16
 clear h0 h1 h2 h3 h4 h5 h6 h7 h8 h9 h16
 go_enter Tryz.func83,Tryz.ntmps83
 go_wp2
 go_ret
 exact ⟨rfl,rfl⟩
end Go.Proofs.YtfdlbjibninakaaGreatDoor

namespace Go.Proofs.YtfdlbjibninakaaGreatDoor
open Go.RowKit
section
variable {B : Nat} {K : Nat → Prop} {aE aU aT : Addr} {w w' : World} {bF cl bR : Nat} {m o o' : Int} {L L' ps : List Int} {cs cs' : Array Value} {lf rb rest rest' pcs : Value} {at' at'' : Nat}
theorem FrV.last {A:Nat} {fv:Value} {x:Fr} (h:FrV A w fv x) (hA:∀k,K k→k<A):LfOk K w fv:=by
 cases h with
 | data h b p v hB hp hv=>exact .inr ⟨_,_,_,_,_,rfl,by simp [FrT],hp,by decide,rfl,fun hk=>absurd (hA _ hk) (by omega)⟩
 | headers h b p v dep wt ex hB hp hv=>exact .inr ⟨_,_,_,_,_,rfl,by simp [FrT],hp,by decide,rfl,fun hk=>absurd (hA _ hk) (by omega)⟩
 | priority h p dep wt ex hB hp=>exact .inr ⟨_,_,_,_,_,rfl,by simp [FrT],hp,by decide,rfl,fun hk=>absurd (hA _ hk) (by omega)⟩
 | rst h p co hB hp=>exact .inr ⟨_,_,_,_,_,rfl,by simp [FrT],hp,by decide,rfl,fun hk=>absurd (hA _ hk) (by omega)⟩
 | settings h b p v hB hp hv h6 hb=>exact .inr ⟨_,_,_,_,_,rfl,by simp [FrT],hp,by decide,rfl,fun hk=>absurd (hA _ hk) (by omega)⟩
 | push h b p v pr hB hp hv=>exact .inr ⟨_,_,_,_,_,rfl,by simp [FrT],hp,by decide,rfl,fun hk=>absurd (hA _ hk) (by omega)⟩
 | ping h b p cs hB hp hz h0 h1 h2 h3 h4 hd hl=>exact .inr ⟨_,_,_,_,_,rfl,by simp [FrT],hp,by decide,h0,fun hk=>absurd (hA _ hk) (by omega)⟩
 | goaway h b p v la co hB hp hv=>exact .inr ⟨_,_,_,_,_,rfl,by simp [FrT],hp,by decide,rfl,fun hk=>absurd (hA _ hk) (by omega)⟩
 | window h p inc hB hp=>exact .inr ⟨_,_,_,_,_,rfl,by simp [FrT],hp,by decide,rfl,fun hk=>absurd (hA _ hk) (by omega)⟩
 | cont h b p v hB hp hv=>exact .inr ⟨_,_,_,_,_,rfl,by simp [FrT],hp,by decide,rfl,fun hk=>absurd (hA _ hk) (by omega)⟩
 | update h b p pr hB hp hl hb=>exact .inr ⟨_,_,_,_,_,rfl,by simp [FrT],hp,by decide,rfl,fun hk=>absurd (hA _ hk) (by omega)⟩
 | unknown h b p v hB hp hv=>exact .inr ⟨_,_,_,_,_,rfl,by simp [FrT],hp,by decide,rfl,fun hk=>absurd (hA _ hk) (by omega)⟩
theorem RSt.inv {T p:Nat} (h:RSt B K aE aU aT w bF cl bR m o L ps cs (.iface T (.pointer (some ⟨p,0,none⟩))) rb rest pcs at'):RSt B K aE aU aT (w.setCell ⟨p,0,none⟩ (.bool false)) bF cl bR m o L ps cs (.iface T (.pointer (some ⟨p,0,none⟩))) rb rest pcs at':=by
 obtain ⟨n1,n2,n3,n4⟩:=h.lfNe rfl
 rcases h.lf with e|⟨T',p',c,t,v,e,h1,h2,h3,h4,h5⟩
 · cases e
 · cases e
   have hk:Kept (· ≠ p) w (w.setCell ⟨p,0,none⟩ (.bool false)):=(Kept.refl _ w).setCell (fun h=>absurd rfl h) _
   have hkk:Kept K w (w.setCell ⟨p,0,none⟩ (.bool false)):=hk.onK fun k hk e=>h5 (e▸hk)
   have hBp:B≤p:=Nat.le_of_not_lt fun e=>h5 (h.gl _ e)
   refine ⟨h.V.kept hk (fun k hk=>by omega),hk.at (Ne.symm n1) h.F,h.fs,hk.at (Ne.symm n2) h.C,⟨hk.at (Ne.symm n3) h.R.R,h.R.rest.kept hkk h.rk,h.R.pcs.kept hkk h.pk,h.R.lim⟩,h.lim,h.bs,h.rk0,h.pk0,h.rb.kept hk (fun g n c e=>Ne.symm (n4 g n c e)),?_,h.kF,h.kC,h.kR,fun k hkk=>Nat.lt_of_lt_of_le (h.lt k hkk) hk.size,h.gl,h.o0,h.m0,h.m1⟩
   refine .inr ⟨T,p,_,t,false,rfl,h1,blk_set h2 0 _,h3,?_,h5⟩
   have:0<c.size:=by
     rcases Nat.eq_zero_or_pos c.size with e|e
     · rw [Array.getElem?_eq_none (by omega)] at h4;cases h4
     · exact e
   rw [get_set _ _ _ _ this,if_pos rfl]
theorem RSt.rdBody {g n n' cap:Nat} {bc:Array Value} (h:RSt B K aE aU aT w bF cl bR m o L ps cs lf (.slice (some ⟨g,0,none⟩) n' cap) rest pcs at') (hg:w.heap[g]? = some (.cells bc 5 (0,0))) (hr:RdEnd w bR rest pcs at' L ps g 0 n bc 5 w') :
   (∃rest' at'',RSt B K aE aU aT w' bF cl bR m o (L.drop n) ps cs lf (.slice (some ⟨g,0,none⟩) n' cap) rest' pcs at'' ∧ ∀J,inK J rest→inK J rest')∧Kept K w w'∧(n≤L.length→n≤cap→cap≤maxLen→RdB w' (.slice (some ⟨g,0,none⟩) n cap) (L.take n)):=by
 obtain ⟨at2,rest2,cs2,h1,h2,h3,h4,h5,h6⟩:=hr
 obtain ⟨n1,n2,n3⟩:=h.rbNe rfl
 rcases h.rb with e|⟨g',n'',cap',bc',e,k1,k2,k3,k4,k5⟩
 · cases e
 · cases e
   have hkk:Kept K w w':=h5.onK fun k hk=>⟨fun e=>h.kR (e▸hk),fun e=>k5 (e▸hk)⟩
   have hBR:=h.BR
   have hBg:B≤g:=Nat.le_of_not_lt fun e=>k5 (h.gl _ e)
   rw [hg] at k1
   cases k1
   refine ⟨⟨rest2,at2,⟨h.V.kept h5 (fun k hk=>⟨by omega,by omega⟩),h5.at ⟨h.FR,Ne.symm n1⟩ h.F,h.fs,h5.at ⟨h.CR,Ne.symm n2⟩ h.C,h1,by have:=h.lim;omega,h.bs.drop n,h6 (· < B) h.rk0,h.pk0,.inr ⟨g,n',cap,cs2,rfl,h3,by rw [h4.size,k2],k3,k4,k5⟩,h.lf.kept h5 (fun T p e=>⟨(h.lfNe e).2.2.1,(h.lfNe e).2.2.2 _ _ _ rfl⟩),h.kF,h.kC,h.kR,fun k hk=>Nat.lt_of_lt_of_le (h.lt k hk) h5.size,h.gl,h.o0,h.m0,h.m1⟩,h6⟩,hkk,fun hn hc hm => ?_⟩
   have hl:(L.take n).length=n:=by rw [List.length_take];omega
   refine ⟨_,_,by rw [hl],by rw [hl];exact hc,hm,fun j x hx=>⟨g,0,rfl,?_⟩⟩
   exact (blk_cell h3 _).trans (h4.at' j x hx)
theorem RSt.narrow {J:Nat→Prop} (h:RSt B J aE aU aT w bF cl bR m o L ps cs lf rb rest pcs at') (hJ:∀k,K k→J k) (gl:∀k,k<B→K k) (rk:inK (· < B) rest) (pk:inK (· < B) pcs):RSt B K aE aU aT w bF cl bR m o L ps cs lf rb rest pcs at':=by
 refine ⟨h.V,h.F,h.fs,h.C,h.R,h.lim,h.bs,rk,pk,?_,?_,fun hk=>h.kF (hJ _ hk),fun hk=>h.kC (hJ _ hk),fun hk=>h.kR (hJ _ hk),fun k hk=>h.lt k (hJ k hk),gl,h.o0,h.m0,h.m1⟩
 · rcases h.rb with e|⟨g,n,cap,bc,e,h1,h2,h3,h4,h5⟩
   · exact .inl e
   · exact .inr ⟨g,n,cap,bc,e,h1,h2,h3,h4,fun hk=>h5 (hJ _ hk)⟩
 · rcases h.lf with e|⟨T,p,c,t,v,e,h1,h2,h3,h4,h5⟩
   · exact .inl e
   · exact .inr ⟨T,p,c,t,v,e,h1,h2,h3,h4,fun hk=>h5 (hJ _ hk)⟩
theorem RSt.setLf (h:RSt B K aE aU aT w bF cl bR m o L ps cs lf rb rest pcs at') {fv:Value} (hf:LfOk K (w.setCell ⟨bF,1,none⟩ fv) fv):RSt B K aE aU aT (w.setCell ⟨bF,1,none⟩ fv) bF cl bR m o L ps (cs.setIfInBounds 1 fv) fv rb rest pcs at':=by
 have hk:Kept (· ≠ bF) w (w.setCell ⟨bF,1,none⟩ fv):=(Kept.refl _ w).setCell (fun h=>absurd rfl h) _
 have hkk:=hk.onK (K:=K) fun k hk e=>h.kF (e▸hk)
 have hB:=h.BF
 exact ⟨h.V.kept hk (fun k hk=>by omega),blk_set h.F 1 _,h.fs.setLf _,hk.at (Ne.symm h.FC) h.C,⟨hk.at (Ne.symm h.FR) h.R.R,h.R.rest.kept hkk h.rk,h.R.pcs.kept hkk h.pk,h.R.lim⟩,h.lim,h.bs,h.rk0,h.pk0,h.rb.kept hk (fun g n c e=>(h.rbNe e).1),hf,h.kF,h.kC,h.kR,fun k hkk=>Nat.lt_of_lt_of_le (h.lt k hkk) hk.size,h.gl,h.o0,h.m0,h.m1⟩
end
end Go.Proofs.YtfdlbjibninakaaGreatDoor

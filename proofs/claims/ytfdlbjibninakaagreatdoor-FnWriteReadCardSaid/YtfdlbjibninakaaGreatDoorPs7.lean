/- Reading: the parsers of frames, each against the plain model (7: PUSH_PROMISE). -/
import Derived.Test.YtfdlbjibninakaaGreatDoorPs5
set_option linter.unusedVariables false
set_option linter.unusedSimpArgs false
namespace Go.Proofs.YtfdlbjibninakaaGreatDoor
set_option maxRecDepth 10000
set_option maxHeartbeats 8000000
open Go.RowKit
theorem blk_dr {w:World} {b:Nat} {o:Obj} (h:w.heap[b]? = some o) (n:Nat):(w.drewN n).heap[b]? = some o:=h
theorem blkEq {w:World} {b:Nat} {cs cs':Array Value} {t:TypeId} {fr:Nat × Nat} (h:w.heap[b]? = some (.cells cs t fr)) (e:cs=cs'):w.heap[b]? = some (.cells cs' t fr):=e▸h
theorem rb_run {a a1:Option Addr} {n n1 c c1:Nat} {l:List Int} {x:Int} (ha:dropA 1 c a=a1) (hn:n=n1+1) (hc:c-1=c1) (hx:gb l 0=x) (w:World) (h:RdB w (.slice a n c) l) :
   Calls Tryz.prog 125 #[.slice a n c] w fun e w'=>e = .returned (.tuple #[.slice a1 n1 c1,.int .u8 x,.nilIface]) ∧ ∃n,w.drewN n=w':=by
 have:=readByte_some h (by omega)
 rw [ha,hc,hx,show n-1=n1 by omega] at this
 exact this
theorem ru_run {a a1:Option Addr} {n n1 c c1:Nat} {l:List Int} {x:Int} (ha:dropA 4 c a=a1) (hn:n=n1+4) (hc:c-4=c1) (hx:n32 l 0=x) (hb:Bs l) (w:World) (h:RdB w (.slice a n c) l) :
   Calls Tryz.prog 126 #[.slice a n c] w fun e w'=>e = .returned (.tuple #[.slice a1 n1 c1,.int .u32 x,.nilIface]) ∧ ∃n,(w.alloc (.cells #[] 231)).drewN n=w':=by
 have:=readUint32_some h hb (by omega)
 rw [ha,hc,hx,show n-4=n1 by omega] at this
 exact this
theorem parseHeaders_pad {h:Hd} {x:Int} {b:List Int} (h1:h.st≠0) (h2:bitOf h.fl 8=true):parseHeaders h (x::b)=headPrio h x b:=by unfold parseHeaders;rw [if_neg h1,h2];rfl
theorem parseHeaders_cut {h:Hd} (h1:h.st≠0) (h2:bitOf h.fl 8=true):parseHeaders h [] = .bad 2 0 0:=by unfold parseHeaders;rw [if_neg h1,h2];rfl
theorem parseHeaders_nopad {h:Hd} {b:List Int} (h1:h.st≠0) (h2:bitOf h.fl 8=false):parseHeaders h b=headPrio h 0 b:=by unfold parseHeaders;rw [if_neg h1,h2];rfl
theorem headPrio_no {h:Hd} {p:Int} {b:List Int} (h1:bitOf h.fl 32=false):headPrio h p b=headEnd h { Fr.of h with hp:=bitOf h.fl 32,ex:=false,dep:=0,wt:=0 } p b:=by unfold headPrio;rw [h1];rfl
theorem headPrio_short {h:Hd} {p:Int} {b:List Int} (h1:bitOf h.fl 32=true) (h2:b.length<5):headPrio h p b = .bad 2 0 0:=by unfold headPrio;rw [h1];exact if_pos h2
theorem headPrio_yes {h:Hd} {p:Int} {b:List Int} (h1:bitOf h.fl 32=true) (h2:¬b.length<5):headPrio h p b=headEnd h { Fr.of h with hp:=bitOf h.fl 32,ex:=decide (2147483648≤n32 b 0),dep:=n31 b 0,wt:=gb b 4 } p (b.drop 5):=by
 unfold headPrio;rw [h1];exact if_neg h2
theorem headEnd_big {h:Hd} {x:Fr} {p:Int} {b:List Int} (h1:(b.length:Int)<p):headEnd h x p b = .bad 5 1 h.st:=if_pos h1
theorem headEnd_ok {h:Hd} {x:Fr} {p:Int} {b:List Int} (h1:¬(b.length:Int)<p):headEnd h x p b = .ok { x with data:=b.take (b.length-p.toNat) }:=if_neg h1
theorem parseHeaders_0 {B:Nat} {aE aU aT:Addr} {w:World} (hV:GV B w aE aU aT) (ty fl ln st:Int) (hf0:0≤fl) (hf1:fl<256) (a:Option Addr) (n c:Nat) (b:List Int) (h:RdB w (.slice a n c) b) (hb:Bs b) (hst:st≠0) (hbit:bitOf fl 8=false) :
   Calls Tryz.prog 110 #[.pointer none,hdV ty fl ln st,cntV,.slice a n c] w (Parsed aU w (parseHeaders ⟨ty,fl,ln,st⟩ b)):=by
 have hs:(st==0)=false:=beq_false_of_ne hst
 have hst:=Lib.hid hst
 obtain ⟨hnb,hnc,hcm⟩:=h.len
 rw [←hnb] at hnc
 have HB:=Lib.hid hnb
 clear hnb
 cases h32:bitOf fl 32 with
 | false =>
   have hp2:¬(n:Int)<0:=by omega
   go_enter Tryz.func110,Tryz.ntmps110
   go_wp2_with (first
     | (go_at_call 44;refine (count_any _ _).mono ?_;rintro e w' ⟨rfl,rfl⟩)
     | (go_at_call 92;refine (has_any fl _ (by simp) hf0 hf1 _).mono ?_;rintro e w' ⟨rfl,rfl⟩)
     | (go_at_call 127;refine (streamError_any _ _ _).mono ?_;rintro e w' ⟨rfl,rfl⟩))
   go_ret2
   refine Parsed.ok (FrV.headers ⟨ty,fl,ln,st⟩ b (w.heap.size+1) _ 0 0 false (by omega) (by apply blkEq;(iterate 24 (first|(with_reducible exact blk_at _ _ (by simp))|(with_reducible apply blk_set)|(with_reducible apply blk_dr)|(with_reducible apply blk_alloc)|skip));rfl) (h.below ?_)) ?_ ?_
   · exact Kept.below (by repeat (first|(with_reducible exact K0 w)|(with_reducible refine Kept.alloc ?_ _)|(with_reducible refine Kept.drawn ?_ _)|(with_reducible refine Kept.setCell ?_ (by simp<;>omega) _))) (Nat.le_refl _)
   · rw [parseHeaders_nopad hst.out hbit,headPrio_no h32,headEnd_ok (by omega),show (0:Int).toNat=0 from rfl,Nat.sub_zero,List.take_length]
   · exact Kept.below (by repeat (first|(with_reducible exact K0 w)|(with_reducible refine Kept.alloc ?_ _)|(with_reducible refine Kept.drawn ?_ _)|(with_reducible refine Kept.setCell ?_ (by simp<;>omega) _))) (Nat.le_refl _)
 | true =>
   by_cases h5:n<5
   · have H5:=Lib.hid h5
     by_cases h4:n=4
     · subst h4
       have hrd4:=RdI.dropA h (n:=4) (by have:=HB.out;omega)
       obtain ⟨a2,ha2⟩:∃a2,dropA 4 c a=a2:=⟨_,rfl⟩
       obtain ⟨c2,hc2⟩:∃c2,c-4=c2:=⟨_,rfl⟩
       obtain ⟨v,hv⟩:∃v,n32 b 0=v:=⟨_,rfl⟩
       have hbd:=n32_bounds hb 0
       rw [hv] at hbd
       have hand:=u32_low v hbd.1 hbd.2
       obtain ⟨y,hy⟩:∃y,v%2147483648=y:=⟨_,rfl⟩
       rw [hy] at hand
       have hne:(v != y)=decide (2147483648≤v):=by
         rw [Bool.eq_iff_iff]
         simp only [bne_iff_ne,ne_eq,decide_eq_true_eq]
         omega
       have hinc:n31 b 0=y:=by unfold n31;rw [hv,hy]
       rw [ha2,hc2] at hrd4
       have ruP:=ru_run (a:=a) ha2 (show 4=0+4 from rfl) hc2 hv hb
       clear ha2 hc2 hv hy hinc hrd4 h5
       go_enter Tryz.func110,Tryz.ntmps110
       go_wp2_with (first
         | (go_at_call 44;refine (count_any _ _).mono ?_;rintro e w' ⟨rfl,rfl⟩)
         | (go_at_call 92;refine (has_any fl _ (by simp) hf0 hf1 _).mono ?_;rintro e w' ⟨rfl,rfl⟩)
         | (go_at_call 127;refine (streamError_any _ _ _).mono ?_;rintro e w' ⟨rfl,rfl⟩)
         | (go_at_call 126;(with_reducible refine (ruP _ (h.below (Kept.below (by repeat (first|(with_reducible exact K0 w)|(with_reducible refine Kept.alloc ?_ _)|(with_reducible refine Kept.drawn ?_ _)|(with_reducible refine Kept.setCell ?_ (by simp<;>omega) _))) (Nat.le_refl _)))).mono ?_);rintro e w' ⟨rfl,nu,rfl⟩)
         | (go_at_call 125;refine (readByte_none (hV.below (Kept.below (by repeat (first|(with_reducible exact K0 w)|(with_reducible refine Kept.alloc ?_ _)|(with_reducible refine Kept.drawn ?_ _)|(with_reducible refine Kept.setCell ?_ (by simp<;>omega) _))) (Nat.le_refl _))) a2 c2).mono ?_;rintro e w' ⟨rfl,nb,rfl⟩))
       go_ret2
       exact Parsed.cut (by rw [parseHeaders_nopad hst.out hbit,headPrio_short h32 (by have:=HB.out;have:=H5.out;omega)]) (Kept.below (by repeat (first|(with_reducible exact K0 w)|(with_reducible refine Kept.alloc ?_ _)|(with_reducible refine Kept.drawn ?_ _)|(with_reducible refine Kept.setCell ?_ (by simp<;>omega) _))) (Nat.le_refl _))
     have h3:n<4:=by omega
     have h3i:(n:Int)<4:=by omega
     clear h4 h5
     go_enter Tryz.func110,Tryz.ntmps110
     go_wp2_with (first
       | (go_at_call 44;refine (count_any _ _).mono ?_;rintro e w' ⟨rfl,rfl⟩)
       | (go_at_call 92;refine (has_any fl _ (by simp) hf0 hf1 _).mono ?_;rintro e w' ⟨rfl,rfl⟩)
       | (go_at_call 127;refine (streamError_any _ _ _).mono ?_;rintro e w' ⟨rfl,rfl⟩)
       | (go_at_call 126;refine (readUint32_none (hV.below (Kept.below (by repeat (first|(with_reducible exact K0 w)|(with_reducible refine Kept.alloc ?_ _)|(with_reducible refine Kept.drawn ?_ _)|(with_reducible refine Kept.setCell ?_ (by simp<;>omega) _))) (Nat.le_refl _))) a n c h3).mono ?_;rintro e w' ⟨rfl,nu,rfl⟩))
     go_ret2
     exact Parsed.cut (by rw [parseHeaders_nopad hst.out hbit,headPrio_short h32 (by have:=HB.out;have:=H5.out;omega)]) (Kept.below (by repeat (first|(with_reducible exact K0 w)|(with_reducible refine Kept.alloc ?_ _)|(with_reducible refine Kept.drawn ?_ _)|(with_reducible refine Kept.setCell ?_ (by simp<;>omega) _))) (Nat.le_refl _))
   obtain ⟨k,rfl⟩:∃k,n=k+5:=⟨n-5,by omega⟩
   have hrd4:=RdI.dropA h (n:=4) (by have:=HB.out;omega)
   obtain ⟨a2,ha2⟩:∃a2,dropA 4 c a=a2:=⟨_,rfl⟩
   obtain ⟨c2,hc2⟩:∃c2,c-4=c2:=⟨_,rfl⟩
   obtain ⟨v,hv⟩:∃v,n32 b 0=v:=⟨_,rfl⟩
   have hbd:=n32_bounds hb 0
   rw [hv] at hbd
   have hand:=u32_low v hbd.1 hbd.2
   obtain ⟨y,hy⟩:∃y,v%2147483648=y:=⟨_,rfl⟩
   rw [hy] at hand
   have hne:(v != y)=decide (2147483648≤v):=by
     rw [Bool.eq_iff_iff]
     simp only [bne_iff_ne,ne_eq,decide_eq_true_eq]
     omega
   have hinc:n31 b 0=y:=by unfold n31;rw [hv,hy]
   rw [ha2,hc2] at hrd4
   have e4:k+5-4=k+1:=by omega
   rw [e4] at hrd4
   clear e4
   have hrd5:=RdI.dropA hrd4 (n:=1) (by rw [List.length_drop];have:=HB.out;omega)
   obtain ⟨a3,ha3⟩:∃a3,dropA 1 c2 a2=a3:=⟨_,rfl⟩
   obtain ⟨c3,hc3⟩:∃c3,c2-1=c3:=⟨_,rfl⟩
   obtain ⟨wt,hwt⟩:∃wt,gb (b.drop 4) 0=wt:=⟨_,rfl⟩
   have hwt4:gb b 4=wt:=by rw [←hwt];unfold gb;simp only [List.getD_eq_getElem?_getD,List.getElem?_drop]
   rw [ha3,hc3,List.drop_drop] at hrd5
   have hrd5:RdB w (.slice a3 k c3) (b.drop 5):=hrd5
   have ruP:=ru_run (a:=a) ha2 (show k+5=(k+1)+4 from rfl) hc2 hv hb
   have rbW:=rb_run (a:=a2) ha3 (show k+1=k+1 from rfl) hc3 hwt
   have hkc:k≤c3:=by omega
   have hc3m:c3≤9223372036854775807:=by omega
   have HV:=Lib.hid hv
   have HI:=Lib.hid hinc
   have HW:=Lib.hid hwt4
   have HY:=Lib.hid hy
   clear ha2 hc2 hv hy hinc ha3 hc3 hwt hwt4 h5
   have hp2:¬(k:Int)<0:=by omega
   go_enter Tryz.func110,Tryz.ntmps110
   go_wp2_with (first
     | (go_at_call 44;refine (count_any _ _).mono ?_;rintro e w' ⟨rfl,rfl⟩)
     | (go_at_call 92;refine (has_any fl _ (by simp) hf0 hf1 _).mono ?_;rintro e w' ⟨rfl,rfl⟩)
     | (go_at_call 127;refine (streamError_any _ _ _).mono ?_;rintro e w' ⟨rfl,rfl⟩)
     | (go_at_call 126;(with_reducible refine (ruP _ (h.below (Kept.below (by repeat (first|(with_reducible exact K0 w)|(with_reducible refine Kept.alloc ?_ _)|(with_reducible refine Kept.drawn ?_ _)|(with_reducible refine Kept.setCell ?_ (by simp<;>omega) _))) (Nat.le_refl _)))).mono ?_);rintro e w' ⟨rfl,nu,rfl⟩)
     | (go_at_call 125;(with_reducible refine (rbW _ (hrd4.below (Kept.below (by repeat (first|(with_reducible exact K0 w)|(with_reducible refine Kept.alloc ?_ _)|(with_reducible refine Kept.drawn ?_ _)|(with_reducible refine Kept.setCell ?_ (by simp<;>omega) _))) (Nat.le_refl _)))).mono ?_);rintro e w' ⟨rfl,nb,rfl⟩))
   go_ret2
   refine Parsed.ok (FrV.headers ⟨ty,fl,ln,st⟩ (b.drop 5) (w.heap.size+1) _ y wt (decide (2147483648≤v)) (by omega) (by apply blkEq;(iterate 24 (first|(with_reducible exact blk_at _ _ (by simp))|(with_reducible apply blk_set)|(with_reducible apply blk_dr)|(with_reducible apply blk_alloc)|skip));rfl) (hrd5.below ?_)) ?_ ?_
   · exact Kept.below (by repeat (first|(with_reducible exact K0 w)|(with_reducible refine Kept.alloc ?_ _)|(with_reducible refine Kept.drawn ?_ _)|(with_reducible refine Kept.setCell ?_ (by simp<;>omega) _))) (Nat.le_refl _)
   · rw [parseHeaders_nopad hst.out hbit,headPrio_yes h32 (by have:=HB.out;omega),HV.out,HI.out,HW.out,headEnd_ok (by omega),show (0:Int).toNat=0 from rfl,Nat.sub_zero,List.take_length]
   · exact Kept.below (by repeat (first|(with_reducible exact K0 w)|(with_reducible refine Kept.alloc ?_ _)|(with_reducible refine Kept.drawn ?_ _)|(with_reducible refine Kept.setCell ?_ (by simp<;>omega) _))) (Nat.le_refl _)
end Go.Proofs.YtfdlbjibninakaaGreatDoor

namespace Go.Proofs.YtfdlbjibninakaaGreatDoor
set_option maxRecDepth 10000
set_option maxHeartbeats 8000000
open Go.RowKit
theorem parseHeaders_1 {B:Nat} {aE aU aT:Addr} {w:World} (hV:GV B w aE aU aT) (ty fl ln st:Int) (hf0:0≤fl) (hf1:fl<256) (a:Option Addr) (n c:Nat) (b:List Int) (h:RdB w (.slice a n c) b) (hb:Bs b) (hst:st≠0) (hbit:bitOf fl 8=true) :
   Calls Tryz.prog 110 #[.pointer none,hdV ty fl ln st,cntV,.slice a n c] w (Parsed aU w (parseHeaders ⟨ty,fl,ln,st⟩ b)):=by
 have hs:(st==0)=false:=beq_false_of_ne hst
 have hst:=Lib.hid hst
 obtain ⟨hnb,hnc,hcm⟩:=h.len
 rw [←hnb] at hnc
 have HB:=Lib.hid hnb
 clear hnb
 by_cases hn:n=0
 · subst hn
   have hb0:b = []:=List.eq_nil_of_length_eq_zero HB.out.symm
   have HB0:=Lib.hid hb0
   clear hb0
   go_enter Tryz.func110,Tryz.ntmps110
   go_wp2_with (first
     | (go_at_call 44;refine (count_any _ _).mono ?_;rintro e w' ⟨rfl,rfl⟩)
     | (go_at_call 92;refine (has_any fl _ (by simp) hf0 hf1 _).mono ?_;rintro e w' ⟨rfl,rfl⟩)
     | (go_at_call 127;refine (streamError_any _ _ _).mono ?_;rintro e w' ⟨rfl,rfl⟩)
     | (go_at_call 125;refine (readByte_none (hV.below (Kept.below (by repeat (first|(with_reducible exact K0 w)|(with_reducible refine Kept.alloc ?_ _)|(with_reducible refine Kept.drawn ?_ _)|(with_reducible refine Kept.setCell ?_ (by simp<;>omega) _))) (Nat.le_refl _))) a c).mono ?_;rintro e w' ⟨rfl,np,rfl⟩))
   go_ret2
   exact Parsed.cut (by rw [HB0.out,parseHeaders_cut hst.out hbit]) (Kept.below (by repeat (first|(with_reducible exact K0 w)|(with_reducible refine Kept.alloc ?_ _)|(with_reducible refine Kept.drawn ?_ _)|(with_reducible refine Kept.setCell ?_ (by simp<;>omega) _))) (Nat.le_refl _))
 have hpos:0<n:=by omega
 have hx:=hb.at 0
 obtain ⟨x,b',rfl⟩:∃x b',b=x::b':=by
   cases b with
   | nil=>have:=HB.out;simp at this;omega
   | cons x b'=>exact ⟨x,b',rfl⟩
 obtain ⟨n',rfl⟩:∃n',n=n'+1:=⟨n-1,by omega⟩
 have HN:RowKit.Hid (n'=b'.length):=Lib.hid (by have:=HB.out;simp at this;omega)
 have hr1:=RdI.dropA h (n:=1) (by simp)
 obtain ⟨a1,ha1⟩:∃a1,dropA 1 c a=a1:=⟨_,rfl⟩
 obtain ⟨c1,hc1⟩:∃c1,c-1=c1:=⟨_,rfl⟩
 rw [ha1,hc1] at hr1
 have hr1:RdB w (.slice a1 n' c1) b':=hr1
 have hb':Bs b':=hb.drop 1
 have hx:0≤x∧x<256:=hx
 have rbP:=rb_run (a:=a) (l:=x::b') (x:=x) ha1 (show n'+1=n'+1 from rfl) hc1 rfl
 have hnc1:n'≤c1:=by omega
 have hcm1:c1≤9223372036854775807:=by omega
 have HC1:=Lib.hid hc1
 have HA1:=Lib.hid ha1
 clear hc1 ha1 hpos hn
 cases h32:bitOf fl 32 with
 | false =>
   by_cases hp:(n':Int)<x
   · have HP:=Lib.hid hp
     go_enter Tryz.func110,Tryz.ntmps110
     go_wp2_with (first
       | (go_at_call 44;refine (count_any _ _).mono ?_;rintro e w' ⟨rfl,rfl⟩)
       | (go_at_call 92;refine (has_any fl _ (by simp) hf0 hf1 _).mono ?_;rintro e w' ⟨rfl,rfl⟩)
       | (go_at_call 127;refine (streamError_any _ _ _).mono ?_;rintro e w' ⟨rfl,rfl⟩)
       | (go_at_call 125;(with_reducible refine (rbP _ (h.below (Kept.below (by repeat (first|(with_reducible exact K0 w)|(with_reducible refine Kept.alloc ?_ _)|(with_reducible refine Kept.drawn ?_ _)|(with_reducible refine Kept.setCell ?_ (by simp<;>omega) _))) (Nat.le_refl _)))).mono ?_);rintro e w' ⟨rfl,np,rfl⟩))
     go_ret2
     exact Parsed.stream (by rw [parseHeaders_pad hst.out hbit,headPrio_no h32,headEnd_big (by have:=HP.out;have:b'.length=n':=(by have:=HN.out;omega);omega)]) (Kept.below (by repeat (first|(with_reducible exact K0 w)|(with_reducible refine Kept.alloc ?_ _)|(with_reducible refine Kept.drawn ?_ _)|(with_reducible refine Kept.setCell ?_ (by simp<;>omega) _))) (Nat.le_refl _))
   have HP:=Lib.hid hp
   have hp2:¬x>(n':Int):=by omega
   clear hp
   go_enter Tryz.func110,Tryz.ntmps110
   go_wp2_with (first
     | (go_at_call 44;refine (count_any _ _).mono ?_;rintro e w' ⟨rfl,rfl⟩)
     | (go_at_call 92;refine (has_any fl _ (by simp) hf0 hf1 _).mono ?_;rintro e w' ⟨rfl,rfl⟩)
     | (go_at_call 127;refine (streamError_any _ _ _).mono ?_;rintro e w' ⟨rfl,rfl⟩)
     | (go_at_call 125;(with_reducible refine (rbP _ (h.below (Kept.below (by repeat (first|(with_reducible exact K0 w)|(with_reducible refine Kept.alloc ?_ _)|(with_reducible refine Kept.drawn ?_ _)|(with_reducible refine Kept.setCell ?_ (by simp<;>omega) _))) (Nat.le_refl _)))).mono ?_);rintro e w' ⟨rfl,np,rfl⟩))
   go_ret2
   refine Parsed.ok (FrV.headers ⟨ty,fl,ln,st⟩ (b'.take ((n':Int)-x).toNat) (w.heap.size+1) _ 0 0 false (by omega) (by apply blkEq;(iterate 24 (first|(with_reducible exact blk_at _ _ (by simp))|(with_reducible apply blk_set)|(with_reducible apply blk_dr)|(with_reducible apply blk_alloc)|skip));rfl) ((hr1.take (m:=((n':Int)-x).toNat) (by omega)).below ?_)) ?_ ?_
   · exact Kept.below (by repeat (first|(with_reducible exact K0 w)|(with_reducible refine Kept.alloc ?_ _)|(with_reducible refine Kept.drawn ?_ _)|(with_reducible refine Kept.setCell ?_ (by simp<;>omega) _))) (Nat.le_refl _)
   · have:b'.length=n':=(by have:=HN.out;omega)
     rw [parseHeaders_pad hst.out hbit,headPrio_no h32,headEnd_ok (by have:=HP.out;omega),show b'.length-x.toNat=((n':Int)-x).toNat by omega]
   · exact Kept.below (by repeat (first|(with_reducible exact K0 w)|(with_reducible refine Kept.alloc ?_ _)|(with_reducible refine Kept.drawn ?_ _)|(with_reducible refine Kept.setCell ?_ (by simp<;>omega) _))) (Nat.le_refl _)
 | true =>
   by_cases h5:n'<5
   · have H5:=Lib.hid h5
     by_cases h4:n'=4
     · subst h4
       have hrd4:=RdI.dropA hr1 (n:=4) (by have:=HN.out;omega)
       obtain ⟨a2,ha2⟩:∃a2,dropA 4 c1 a1=a2:=⟨_,rfl⟩
       obtain ⟨c2,hc2⟩:∃c2,c1-4=c2:=⟨_,rfl⟩
       obtain ⟨v,hv⟩:∃v,n32 b' 0=v:=⟨_,rfl⟩
       have hbd:=n32_bounds hb' 0
       rw [hv] at hbd
       have hand:=u32_low v hbd.1 hbd.2
       obtain ⟨y,hy⟩:∃y,v%2147483648=y:=⟨_,rfl⟩
       rw [hy] at hand
       have hne:(v != y)=decide (2147483648≤v):=by
         rw [Bool.eq_iff_iff]
         simp only [bne_iff_ne,ne_eq,decide_eq_true_eq]
         omega
       have hinc:n31 b' 0=y:=by unfold n31;rw [hv,hy]
       rw [ha2,hc2] at hrd4
       have ruP:=ru_run (a:=a1) ha2 (show 4=0+4 from rfl) hc2 hv hb'
       clear ha2 hc2 hv hy hinc hrd4 h5
       go_enter Tryz.func110,Tryz.ntmps110
       go_wp2_with (first
         | (go_at_call 44;refine (count_any _ _).mono ?_;rintro e w' ⟨rfl,rfl⟩)
         | (go_at_call 92;refine (has_any fl _ (by simp) hf0 hf1 _).mono ?_;rintro e w' ⟨rfl,rfl⟩)
         | (go_at_call 127;refine (streamError_any _ _ _).mono ?_;rintro e w' ⟨rfl,rfl⟩)
         | (go_at_call 125;(with_reducible refine (rbP _ (h.below (Kept.below (by repeat (first|(with_reducible exact K0 w)|(with_reducible refine Kept.alloc ?_ _)|(with_reducible refine Kept.drawn ?_ _)|(with_reducible refine Kept.setCell ?_ (by simp<;>omega) _))) (Nat.le_refl _)))).mono ?_);rintro e w' ⟨rfl,np,rfl⟩)
         | (go_at_call 126;(with_reducible refine (ruP _ (hr1.below (Kept.below (by repeat (first|(with_reducible exact K0 w)|(with_reducible refine Kept.alloc ?_ _)|(with_reducible refine Kept.drawn ?_ _)|(with_reducible refine Kept.setCell ?_ (by simp<;>omega) _))) (Nat.le_refl _)))).mono ?_);rintro e w' ⟨rfl,nu,rfl⟩)
         | (go_at_call 125;refine (readByte_none (hV.below (Kept.below (by repeat (first|(with_reducible exact K0 w)|(with_reducible refine Kept.alloc ?_ _)|(with_reducible refine Kept.drawn ?_ _)|(with_reducible refine Kept.setCell ?_ (by simp<;>omega) _))) (Nat.le_refl _))) a2 c2).mono ?_;rintro e w' ⟨rfl,nb,rfl⟩))
       go_ret2
       exact Parsed.cut (by rw [parseHeaders_pad hst.out hbit,headPrio_short h32 (by have:=HN.out;have:=H5.out;omega)]) (Kept.below (by repeat (first|(with_reducible exact K0 w)|(with_reducible refine Kept.alloc ?_ _)|(with_reducible refine Kept.drawn ?_ _)|(with_reducible refine Kept.setCell ?_ (by simp<;>omega) _))) (Nat.le_refl _))
     have h3:n'<4:=by omega
     have h3i:(n':Int)<4:=by omega
     clear h4 h5
     go_enter Tryz.func110,Tryz.ntmps110
     go_wp2_with (first
       | (go_at_call 44;refine (count_any _ _).mono ?_;rintro e w' ⟨rfl,rfl⟩)
       | (go_at_call 92;refine (has_any fl _ (by simp) hf0 hf1 _).mono ?_;rintro e w' ⟨rfl,rfl⟩)
       | (go_at_call 127;refine (streamError_any _ _ _).mono ?_;rintro e w' ⟨rfl,rfl⟩)
       | (go_at_call 125;(with_reducible refine (rbP _ (h.below (Kept.below (by repeat (first|(with_reducible exact K0 w)|(with_reducible refine Kept.alloc ?_ _)|(with_reducible refine Kept.drawn ?_ _)|(with_reducible refine Kept.setCell ?_ (by simp<;>omega) _))) (Nat.le_refl _)))).mono ?_);rintro e w' ⟨rfl,np,rfl⟩)
       | (go_at_call 126;refine (readUint32_none (hV.below (Kept.below (by repeat (first|(with_reducible exact K0 w)|(with_reducible refine Kept.alloc ?_ _)|(with_reducible refine Kept.drawn ?_ _)|(with_reducible refine Kept.setCell ?_ (by simp<;>omega) _))) (Nat.le_refl _))) a1 n' c1 h3).mono ?_;rintro e w' ⟨rfl,nu,rfl⟩))
     go_ret2
     exact Parsed.cut (by rw [parseHeaders_pad hst.out hbit,headPrio_short h32 (by have:=HN.out;have:=H5.out;omega)]) (Kept.below (by repeat (first|(with_reducible exact K0 w)|(with_reducible refine Kept.alloc ?_ _)|(with_reducible refine Kept.drawn ?_ _)|(with_reducible refine Kept.setCell ?_ (by simp<;>omega) _))) (Nat.le_refl _))
   obtain ⟨k,rfl⟩:∃k,n'=k+5:=⟨n'-5,by omega⟩
   have hrd4:=RdI.dropA hr1 (n:=4) (by have:=HN.out;omega)
   obtain ⟨a2,ha2⟩:∃a2,dropA 4 c1 a1=a2:=⟨_,rfl⟩
   obtain ⟨c2,hc2⟩:∃c2,c1-4=c2:=⟨_,rfl⟩
   obtain ⟨v,hv⟩:∃v,n32 b' 0=v:=⟨_,rfl⟩
   have hbd:=n32_bounds hb' 0
   rw [hv] at hbd
   have hand:=u32_low v hbd.1 hbd.2
   obtain ⟨y,hy⟩:∃y,v%2147483648=y:=⟨_,rfl⟩
   rw [hy] at hand
   have hne:(v != y)=decide (2147483648≤v):=by
     rw [Bool.eq_iff_iff]
     simp only [bne_iff_ne,ne_eq,decide_eq_true_eq]
     omega
   have hinc:n31 b' 0=y:=by unfold n31;rw [hv,hy]
   rw [ha2,hc2] at hrd4
   have e4:k+5-4=k+1:=by omega
   rw [e4] at hrd4
   clear e4
   have hrd5:=RdI.dropA hrd4 (n:=1) (by rw [List.length_drop];have:=HN.out;omega)
   obtain ⟨a3,ha3⟩:∃a3,dropA 1 c2 a2=a3:=⟨_,rfl⟩
   obtain ⟨c3,hc3⟩:∃c3,c2-1=c3:=⟨_,rfl⟩
   obtain ⟨wt,hwt⟩:∃wt,gb (b'.drop 4) 0=wt:=⟨_,rfl⟩
   have hwt4:gb b' 4=wt:=by rw [←hwt];unfold gb;simp only [List.getD_eq_getElem?_getD,List.getElem?_drop]
   rw [ha3,hc3,List.drop_drop] at hrd5
   have hrd5:RdB w (.slice a3 k c3) (b'.drop 5):=hrd5
   have ruP:=ru_run (a:=a1) ha2 (show k+5=(k+1)+4 from rfl) hc2 hv hb'
   have rbW:=rb_run (a:=a2) ha3 (show k+1=k+1 from rfl) hc3 hwt
   have hkc:k≤c3:=by omega
   have hc3m:c3≤9223372036854775807:=by omega
   have HV:=Lib.hid hv
   have HI:=Lib.hid hinc
   have HW:=Lib.hid hwt4
   have HY:=Lib.hid hy
   clear ha2 hc2 hv hy hinc ha3 hc3 hwt hwt4 h5
   by_cases hp:(k:Int)<x
   · have HP:=Lib.hid hp
     go_enter Tryz.func110,Tryz.ntmps110
     go_wp2_with (first
       | (go_at_call 44;refine (count_any _ _).mono ?_;rintro e w' ⟨rfl,rfl⟩)
       | (go_at_call 92;refine (has_any fl _ (by simp) hf0 hf1 _).mono ?_;rintro e w' ⟨rfl,rfl⟩)
       | (go_at_call 127;refine (streamError_any _ _ _).mono ?_;rintro e w' ⟨rfl,rfl⟩)
       | (go_at_call 125;(with_reducible refine (rbP _ (h.below (Kept.below (by repeat (first|(with_reducible exact K0 w)|(with_reducible refine Kept.alloc ?_ _)|(with_reducible refine Kept.drawn ?_ _)|(with_reducible refine Kept.setCell ?_ (by simp<;>omega) _))) (Nat.le_refl _)))).mono ?_);rintro e w' ⟨rfl,np,rfl⟩)
       | (go_at_call 126;(with_reducible refine (ruP _ (hr1.below (Kept.below (by repeat (first|(with_reducible exact K0 w)|(with_reducible refine Kept.alloc ?_ _)|(with_reducible refine Kept.drawn ?_ _)|(with_reducible refine Kept.setCell ?_ (by simp<;>omega) _))) (Nat.le_refl _)))).mono ?_);rintro e w' ⟨rfl,nu,rfl⟩)
       | (go_at_call 125;(with_reducible refine (rbW _ (hrd4.below (Kept.below (by repeat (first|(with_reducible exact K0 w)|(with_reducible refine Kept.alloc ?_ _)|(with_reducible refine Kept.drawn ?_ _)|(with_reducible refine Kept.setCell ?_ (by simp<;>omega) _))) (Nat.le_refl _)))).mono ?_);rintro e w' ⟨rfl,nb,rfl⟩))
     go_ret2
     exact Parsed.stream (by rw [parseHeaders_pad hst.out hbit,headPrio_yes h32 (by have:=HN.out;omega),HV.out,HI.out,HW.out,headEnd_big (by have:=HP.out;have:(b'.drop 5).length=k:=(by rw [List.length_drop];have:=HN.out;omega);omega)]) (Kept.below (by repeat (first|(with_reducible exact K0 w)|(with_reducible refine Kept.alloc ?_ _)|(with_reducible refine Kept.drawn ?_ _)|(with_reducible refine Kept.setCell ?_ (by simp<;>omega) _))) (Nat.le_refl _))
   have HP:=Lib.hid hp
   have hp2:¬x>(k:Int):=by omega
   clear hp
   go_enter Tryz.func110,Tryz.ntmps110
   go_wp2_with (first
     | (go_at_call 44;refine (count_any _ _).mono ?_;rintro e w' ⟨rfl,rfl⟩)
     | (go_at_call 92;refine (has_any fl _ (by simp) hf0 hf1 _).mono ?_;rintro e w' ⟨rfl,rfl⟩)
     | (go_at_call 127;refine (streamError_any _ _ _).mono ?_;rintro e w' ⟨rfl,rfl⟩)
     | (go_at_call 125;(with_reducible refine (rbP _ (h.below (Kept.below (by repeat (first|(with_reducible exact K0 w)|(with_reducible refine Kept.alloc ?_ _)|(with_reducible refine Kept.drawn ?_ _)|(with_reducible refine Kept.setCell ?_ (by simp<;>omega) _))) (Nat.le_refl _)))).mono ?_);rintro e w' ⟨rfl,np,rfl⟩)
     | (go_at_call 126;(with_reducible refine (ruP _ (hr1.below (Kept.below (by repeat (first|(with_reducible exact K0 w)|(with_reducible refine Kept.alloc ?_ _)|(with_reducible refine Kept.drawn ?_ _)|(with_reducible refine Kept.setCell ?_ (by simp<;>omega) _))) (Nat.le_refl _)))).mono ?_);rintro e w' ⟨rfl,nu,rfl⟩)
     | (go_at_call 125;(with_reducible refine (rbW _ (hrd4.below (Kept.below (by repeat (first|(with_reducible exact K0 w)|(with_reducible refine Kept.alloc ?_ _)|(with_reducible refine Kept.drawn ?_ _)|(with_reducible refine Kept.setCell ?_ (by simp<;>omega) _))) (Nat.le_refl _)))).mono ?_);rintro e w' ⟨rfl,nb,rfl⟩))
   go_ret2
   refine Parsed.ok (FrV.headers ⟨ty,fl,ln,st⟩ ((b'.drop 5).take ((k:Int)-x).toNat) (w.heap.size+1) _ y wt (decide (2147483648≤v)) (by omega) (by apply blkEq;(iterate 24 (first|(with_reducible exact blk_at _ _ (by simp))|(with_reducible apply blk_set)|(with_reducible apply blk_dr)|(with_reducible apply blk_alloc)|skip));rfl) ((hrd5.take (m:=((k:Int)-x).toNat) (by omega)).below ?_)) ?_ ?_
   · exact Kept.below (by repeat (first|(with_reducible exact K0 w)|(with_reducible refine Kept.alloc ?_ _)|(with_reducible refine Kept.drawn ?_ _)|(with_reducible refine Kept.setCell ?_ (by simp<;>omega) _))) (Nat.le_refl _)
   · have:(b'.drop 5).length=k:=(by rw [List.length_drop];have:=HN.out;omega)
     rw [parseHeaders_pad hst.out hbit,headPrio_yes h32 (by have:=HN.out;omega),HV.out,HI.out,HW.out,headEnd_ok (by have:=HP.out;omega),show (b'.drop 5).length-x.toNat=((k:Int)-x).toNat by omega]
   · exact Kept.below (by repeat (first|(with_reducible exact K0 w)|(with_reducible refine Kept.alloc ?_ _)|(with_reducible refine Kept.drawn ?_ _)|(with_reducible refine Kept.setCell ?_ (by simp<;>omega) _))) (Nat.le_refl _)
theorem parseHeaders_any {B:Nat} {aE aU aT:Addr} {w:World} (hV:GV B w aE aU aT) (ty fl ln st:Int) (hf0:0≤fl) (hf1:fl<256) (a:Option Addr) (n c:Nat) (b:List Int) (h:RdB w (.slice a n c) b) (hb:Bs b) :
   Calls Tryz.prog 110 #[.pointer none,hdV ty fl ln st,cntV,.slice a n c] w (Parsed aU w (parseHeaders ⟨ty,fl,ln,st⟩ b)):=by
 by_cases hst:st=0
 · subst hst
   go_enter Tryz.func110,Tryz.ntmps110
   go_wp2_with (go_at_call 44;refine (count_any _ _).mono ?_;rintro e w' ⟨rfl,rfl⟩)
   go_ret2
   exact Parsed.connR rfl (Kept.below (by repeat (first|(with_reducible exact K0 w)|(with_reducible refine Kept.alloc ?_ _)|(with_reducible refine Kept.drawn ?_ _)|(with_reducible refine Kept.setCell ?_ (by simp<;>omega) _))) (Nat.le_refl _))
 cases hbit:bitOf fl 8 with
 | false=>exact parseHeaders_0 hV ty fl ln st hf0 hf1 a n c b h hb hst hbit
 | true=>exact parseHeaders_1 hV ty fl ln st hf0 hf1 a n c b h hb hst hbit
end Go.Proofs.YtfdlbjibninakaaGreatDoor

namespace Go.Proofs.YtfdlbjibninakaaGreatDoor
set_option maxRecDepth 10000
set_option maxHeartbeats 8000000
open Go.RowKit
theorem parsePush_pad {h:Hd} {x:Int} {b:List Int} (h1:h.st≠0) (h2:bitOf h.fl 8=true):parsePush h (x::b)=pushEnd h x b:=by unfold parsePush;rw [if_neg h1,h2];rfl
theorem parsePush_cut {h:Hd} (h1:h.st≠0) (h2:bitOf h.fl 8=true):parsePush h [] = .bad 2 0 0:=by unfold parsePush;rw [if_neg h1,h2];rfl
theorem parsePush_nopad {h:Hd} {b:List Int} (h1:h.st≠0) (h2:bitOf h.fl 8=false):parsePush h b=pushEnd h 0 b:=by unfold parsePush;rw [if_neg h1,h2];rfl
theorem pushEnd_short {h:Hd} {p:Int} {b:List Int} (h2:b.length<4):pushEnd h p b = .bad 2 0 0:=if_pos h2
theorem pushEnd_big {h:Hd} {p:Int} {b:List Int} (h1:¬b.length<4) (h2:((b.length:Int)-4)<p):pushEnd h p b = .bad 4 1 0:=by unfold pushEnd;rw [if_neg h1,if_pos h2]
theorem pushEnd_ok {h:Hd} {p:Int} {b:List Int} (h1:¬b.length<4) (h2:¬((b.length:Int)-4)<p):pushEnd h p b = .ok { Fr.of h with pr:=n31 b 0,data:=(b.drop 4).take (b.length-4-p.toNat) }:=by unfold pushEnd;rw [if_neg h1,if_neg h2]
theorem parsePush_0 {B:Nat} {aE aU aT:Addr} {w:World} (hV:GV B w aE aU aT) (ty fl ln st:Int) (hf0:0≤fl) (hf1:fl<256) (a:Option Addr) (n c:Nat) (b:List Int) (h:RdB w (.slice a n c) b) (hb:Bs b) (hst:st≠0) (hbit:bitOf fl 8=false) :
   Calls Tryz.prog 114 #[.pointer none,hdV ty fl ln st,cntV,.slice a n c] w (Parsed aU w (parsePush ⟨ty,fl,ln,st⟩ b)):=by
 have hs:(st==0)=false:=beq_false_of_ne hst
 have hst:=Lib.hid hst
 obtain ⟨hnb,hnc,hcm⟩:=h.len
 rw [←hnb] at hnc
 have HB:=Lib.hid hnb
 clear hnb
 by_cases h4:n<4
 · have h4i:(n:Int)<4:=by omega
   go_enter Tryz.func114,Tryz.ntmps114
   go_wp2_with (first
     | (go_at_call 44;refine (count_any _ _).mono ?_;rintro e w' ⟨rfl,rfl⟩)
     | (go_at_call 92;refine (has_any fl _ (by simp) hf0 hf1 _).mono ?_;rintro e w' ⟨rfl,rfl⟩)
     | (go_at_call 126;refine (readUint32_none (hV.below (Kept.below (by repeat (first|(with_reducible exact K0 w)|(with_reducible refine Kept.alloc ?_ _)|(with_reducible refine Kept.drawn ?_ _)|(with_reducible refine Kept.setCell ?_ (by simp<;>omega) _))) (Nat.le_refl _))) a n c h4).mono ?_;rintro e w' ⟨rfl,nu,rfl⟩))
   go_ret2
   exact Parsed.cut (by rw [parsePush_nopad hst.out hbit,pushEnd_short (by have:=HB.out;omega)]) (Kept.below (by repeat (first|(with_reducible exact K0 w)|(with_reducible refine Kept.alloc ?_ _)|(with_reducible refine Kept.drawn ?_ _)|(with_reducible refine Kept.setCell ?_ (by simp<;>omega) _))) (Nat.le_refl _))
 obtain ⟨k,rfl⟩:∃k,n=k+4:=⟨n-4,by omega⟩
 have hrd4:=RdI.dropA h (n:=4) (by have:=HB.out;omega)
 obtain ⟨a2,ha2⟩:∃a2,dropA 4 c a=a2:=⟨_,rfl⟩
 obtain ⟨c2,hc2⟩:∃c2,c-4=c2:=⟨_,rfl⟩
 obtain ⟨v,hv⟩:∃v,n32 b 0=v:=⟨_,rfl⟩
 have hbd:=n32_bounds hb 0
 rw [hv] at hbd
 have hand:=u32_low v hbd.1 hbd.2
 obtain ⟨y,hy⟩:∃y,v%2147483648=y:=⟨_,rfl⟩
 rw [hy] at hand
 have hne:(v != y)=decide (2147483648≤v):=by
   rw [Bool.eq_iff_iff]
   simp only [bne_iff_ne,ne_eq,decide_eq_true_eq]
   omega
 have hinc:n31 b 0=y:=by unfold n31;rw [hv,hy]
 rw [ha2,hc2] at hrd4
 have e4:k+4-4=k:=by omega
 rw [e4] at hrd4
 clear e4
 have ruP:=ru_run (a:=a) ha2 (show k+4=k+4 from rfl) hc2 hv hb
 have hkc:k≤c2:=by omega
 have hc2m:c2≤9223372036854775807:=by omega
 have HI:=Lib.hid hinc
 have HY:=Lib.hid hy
 clear ha2 hc2 hv hy hinc h4 hne
 have hp2:¬(0:Int)>(k:Int):=by omega
 go_enter Tryz.func114,Tryz.ntmps114
 go_wp2_with (first
   | (go_at_call 44;refine (count_any _ _).mono ?_;rintro e w' ⟨rfl,rfl⟩)
   | (go_at_call 92;refine (has_any fl _ (by simp) hf0 hf1 _).mono ?_;rintro e w' ⟨rfl,rfl⟩)
   | (go_at_call 126;(with_reducible refine (ruP _ (h.below (Kept.below (by repeat (first|(with_reducible exact K0 w)|(with_reducible refine Kept.alloc ?_ _)|(with_reducible refine Kept.drawn ?_ _)|(with_reducible refine Kept.setCell ?_ (by simp<;>omega) _))) (Nat.le_refl _)))).mono ?_);rintro e w' ⟨rfl,nu,rfl⟩))
 go_ret2
 refine Parsed.ok (FrV.push ⟨ty,fl,ln,st⟩ (b.drop 4) (w.heap.size+1) _ y (by omega) (by apply blkEq;(iterate 24 (first|(with_reducible exact blk_at _ _ (by simp))|(with_reducible apply blk_set)|(with_reducible apply blk_dr)|(with_reducible apply blk_alloc)|skip));rfl) (hrd4.below ?_)) ?_ ?_
 · exact Kept.below (by repeat (first|(with_reducible exact K0 w)|(with_reducible refine Kept.alloc ?_ _)|(with_reducible refine Kept.drawn ?_ _)|(with_reducible refine Kept.setCell ?_ (by simp<;>omega) _))) (Nat.le_refl _)
 · have e:b.length-4-(0:Int).toNat=(b.drop 4).length:=by rw [List.length_drop];simp
   rw [parsePush_nopad hst.out hbit,pushEnd_ok (by have:=HB.out;omega) (by have:=HB.out;omega),HI.out,e,List.take_length]
 · exact Kept.below (by repeat (first|(with_reducible exact K0 w)|(with_reducible refine Kept.alloc ?_ _)|(with_reducible refine Kept.drawn ?_ _)|(with_reducible refine Kept.setCell ?_ (by simp<;>omega) _))) (Nat.le_refl _)
theorem parsePush_1 {B:Nat} {aE aU aT:Addr} {w:World} (hV:GV B w aE aU aT) (ty fl ln st:Int) (hf0:0≤fl) (hf1:fl<256) (a:Option Addr) (n c:Nat) (b:List Int) (h:RdB w (.slice a n c) b) (hb:Bs b) (hst:st≠0) (hbit:bitOf fl 8=true) :
   Calls Tryz.prog 114 #[.pointer none,hdV ty fl ln st,cntV,.slice a n c] w (Parsed aU w (parsePush ⟨ty,fl,ln,st⟩ b)):=by
 have hs:(st==0)=false:=beq_false_of_ne hst
 have hst:=Lib.hid hst
 obtain ⟨hnb,hnc,hcm⟩:=h.len
 rw [←hnb] at hnc
 have HB:=Lib.hid hnb
 clear hnb
 by_cases hn:n=0
 · subst hn
   have hb0:b = []:=List.eq_nil_of_length_eq_zero HB.out.symm
   have HB0:=Lib.hid hb0
   clear hb0
   go_enter Tryz.func114,Tryz.ntmps114
   go_wp2_with (first
     | (go_at_call 44;refine (count_any _ _).mono ?_;rintro e w' ⟨rfl,rfl⟩)
     | (go_at_call 92;refine (has_any fl _ (by simp) hf0 hf1 _).mono ?_;rintro e w' ⟨rfl,rfl⟩)
     | (go_at_call 125;refine (readByte_none (hV.below (Kept.below (by repeat (first|(with_reducible exact K0 w)|(with_reducible refine Kept.alloc ?_ _)|(with_reducible refine Kept.drawn ?_ _)|(with_reducible refine Kept.setCell ?_ (by simp<;>omega) _))) (Nat.le_refl _))) a c).mono ?_;rintro e w' ⟨rfl,np,rfl⟩))
   go_ret2
   exact Parsed.cut (by rw [HB0.out,parsePush_cut hst.out hbit]) (Kept.below (by repeat (first|(with_reducible exact K0 w)|(with_reducible refine Kept.alloc ?_ _)|(with_reducible refine Kept.drawn ?_ _)|(with_reducible refine Kept.setCell ?_ (by simp<;>omega) _))) (Nat.le_refl _))
 have hpos:0<n:=by omega
 have hx:=hb.at 0
 obtain ⟨x,b',rfl⟩:∃x b',b=x::b':=by
   cases b with
   | nil=>have:=HB.out;simp at this;omega
   | cons x b'=>exact ⟨x,b',rfl⟩
 obtain ⟨n',rfl⟩:∃n',n=n'+1:=⟨n-1,by omega⟩
 have HN:RowKit.Hid (n'=b'.length):=Lib.hid (by have:=HB.out;simp at this;omega)
 have hr1:=RdI.dropA h (n:=1) (by simp)
 obtain ⟨a1,ha1⟩:∃a1,dropA 1 c a=a1:=⟨_,rfl⟩
 obtain ⟨c1,hc1⟩:∃c1,c-1=c1:=⟨_,rfl⟩
 rw [ha1,hc1] at hr1
 have hr1:RdB w (.slice a1 n' c1) b':=hr1
 have hb':Bs b':=hb.drop 1
 have hx:0≤x∧x<256:=hx
 have rbP:=rb_run (a:=a) (l:=x::b') (x:=x) ha1 (show n'+1=n'+1 from rfl) hc1 rfl
 have hnc1:n'≤c1:=by omega
 have hcm1:c1≤9223372036854775807:=by omega
 have HC1:=Lib.hid hc1
 have HA1:=Lib.hid ha1
 clear hc1 ha1 hpos hn
 by_cases h4:n'<4
 · have h4i:(n':Int)<4:=by omega
   go_enter Tryz.func114,Tryz.ntmps114
   go_wp2_with (first
     | (go_at_call 44;refine (count_any _ _).mono ?_;rintro e w' ⟨rfl,rfl⟩)
     | (go_at_call 92;refine (has_any fl _ (by simp) hf0 hf1 _).mono ?_;rintro e w' ⟨rfl,rfl⟩)
     | (go_at_call 125;(with_reducible refine (rbP _ (h.below (Kept.below (by repeat (first|(with_reducible exact K0 w)|(with_reducible refine Kept.alloc ?_ _)|(with_reducible refine Kept.drawn ?_ _)|(with_reducible refine Kept.setCell ?_ (by simp<;>omega) _))) (Nat.le_refl _)))).mono ?_);rintro e w' ⟨rfl,np,rfl⟩)
     | (go_at_call 126;refine (readUint32_none (hV.below (Kept.below (by repeat (first|(with_reducible exact K0 w)|(with_reducible refine Kept.alloc ?_ _)|(with_reducible refine Kept.drawn ?_ _)|(with_reducible refine Kept.setCell ?_ (by simp<;>omega) _))) (Nat.le_refl _))) a1 n' c1 h4).mono ?_;rintro e w' ⟨rfl,nu,rfl⟩))
   go_ret2
   exact Parsed.cut (by rw [parsePush_pad hst.out hbit,pushEnd_short (by have:=HN.out;omega)]) (Kept.below (by repeat (first|(with_reducible exact K0 w)|(with_reducible refine Kept.alloc ?_ _)|(with_reducible refine Kept.drawn ?_ _)|(with_reducible refine Kept.setCell ?_ (by simp<;>omega) _))) (Nat.le_refl _))
 obtain ⟨k,rfl⟩:∃k,n'=k+4:=⟨n'-4,by omega⟩
 have hrd4:=RdI.dropA hr1 (n:=4) (by have:=HN.out;omega)
 obtain ⟨a2,ha2⟩:∃a2,dropA 4 c1 a1=a2:=⟨_,rfl⟩
 obtain ⟨c2,hc2⟩:∃c2,c1-4=c2:=⟨_,rfl⟩
 obtain ⟨v,hv⟩:∃v,n32 b' 0=v:=⟨_,rfl⟩
 have hbd:=n32_bounds hb' 0
 rw [hv] at hbd
 have hand:=u32_low v hbd.1 hbd.2
 obtain ⟨y,hy⟩:∃y,v%2147483648=y:=⟨_,rfl⟩
 rw [hy] at hand
 have hne:(v != y)=decide (2147483648≤v):=by
   rw [Bool.eq_iff_iff]
   simp only [bne_iff_ne,ne_eq,decide_eq_true_eq]
   omega
 have hinc:n31 b' 0=y:=by unfold n31;rw [hv,hy]
 rw [ha2,hc2] at hrd4
 have e4:k+4-4=k:=by omega
 rw [e4] at hrd4
 clear e4
 have ruP:=ru_run (a:=a1) ha2 (show k+4=k+4 from rfl) hc2 hv hb'
 have hkc:k≤c2:=by omega
 have hc2m:c2≤9223372036854775807:=by omega
 have HI:=Lib.hid hinc
 have HY:=Lib.hid hy
 clear ha2 hc2 hv hy hinc h4 hne
 by_cases hp:(k:Int)<x
 · have HP:=Lib.hid hp
   go_enter Tryz.func114,Tryz.ntmps114
   go_wp2_with (first
     | (go_at_call 44;refine (count_any _ _).mono ?_;rintro e w' ⟨rfl,rfl⟩)
     | (go_at_call 92;refine (has_any fl _ (by simp) hf0 hf1 _).mono ?_;rintro e w' ⟨rfl,rfl⟩)
     | (go_at_call 125;(with_reducible refine (rbP _ (h.below (Kept.below (by repeat (first|(with_reducible exact K0 w)|(with_reducible refine Kept.alloc ?_ _)|(with_reducible refine Kept.drawn ?_ _)|(with_reducible refine Kept.setCell ?_ (by simp<;>omega) _))) (Nat.le_refl _)))).mono ?_);rintro e w' ⟨rfl,np,rfl⟩)
     | (go_at_call 126;(with_reducible refine (ruP _ (hr1.below (Kept.below (by repeat (first|(with_reducible exact K0 w)|(with_reducible refine Kept.alloc ?_ _)|(with_reducible refine Kept.drawn ?_ _)|(with_reducible refine Kept.setCell ?_ (by simp<;>omega) _))) (Nat.le_refl _)))).mono ?_);rintro e w' ⟨rfl,nu,rfl⟩))
   go_ret2
   exact Parsed.conn (by rw [parsePush_pad hst.out hbit,pushEnd_big (by have:=HN.out;omega) (by have:=HN.out;have:=HP.out;omega)]) (Kept.below (by repeat (first|(with_reducible exact K0 w)|(with_reducible refine Kept.alloc ?_ _)|(with_reducible refine Kept.drawn ?_ _)|(with_reducible refine Kept.setCell ?_ (by simp<;>omega) _))) (Nat.le_refl _))
 have HP:=Lib.hid hp
 have hp2:¬x>(k:Int):=by omega
 clear hp
 go_enter Tryz.func114,Tryz.ntmps114
 go_wp2_with (first
   | (go_at_call 44;refine (count_any _ _).mono ?_;rintro e w' ⟨rfl,rfl⟩)
   | (go_at_call 92;refine (has_any fl _ (by simp) hf0 hf1 _).mono ?_;rintro e w' ⟨rfl,rfl⟩)
   | (go_at_call 125;(with_reducible refine (rbP _ (h.below (Kept.below (by repeat (first|(with_reducible exact K0 w)|(with_reducible refine Kept.alloc ?_ _)|(with_reducible refine Kept.drawn ?_ _)|(with_reducible refine Kept.setCell ?_ (by simp<;>omega) _))) (Nat.le_refl _)))).mono ?_);rintro e w' ⟨rfl,np,rfl⟩)
   | (go_at_call 126;(with_reducible refine (ruP _ (hr1.below (Kept.below (by repeat (first|(with_reducible exact K0 w)|(with_reducible refine Kept.alloc ?_ _)|(with_reducible refine Kept.drawn ?_ _)|(with_reducible refine Kept.setCell ?_ (by simp<;>omega) _))) (Nat.le_refl _)))).mono ?_);rintro e w' ⟨rfl,nu,rfl⟩))
 go_ret2
 refine Parsed.ok (FrV.push ⟨ty,fl,ln,st⟩ ((b'.drop 4).take ((k:Int)-x).toNat) (w.heap.size+1) _ y (by omega) (by apply blkEq;(iterate 24 (first|(with_reducible exact blk_at _ _ (by simp))|(with_reducible apply blk_set)|(with_reducible apply blk_dr)|(with_reducible apply blk_alloc)|skip));rfl) ((hrd4.take (m:=((k:Int)-x).toNat) (by omega)).below ?_)) ?_ ?_
 · exact Kept.below (by repeat (first|(with_reducible exact K0 w)|(with_reducible refine Kept.alloc ?_ _)|(with_reducible refine Kept.drawn ?_ _)|(with_reducible refine Kept.setCell ?_ (by simp<;>omega) _))) (Nat.le_refl _)
 · rw [parsePush_pad hst.out hbit,pushEnd_ok (by have:=HN.out;omega) (by have:=HN.out;have:=HP.out;omega),HI.out,show b'.length-4-x.toNat=((k:Int)-x).toNat by have:=HN.out;omega]
 · exact Kept.below (by repeat (first|(with_reducible exact K0 w)|(with_reducible refine Kept.alloc ?_ _)|(with_reducible refine Kept.drawn ?_ _)|(with_reducible refine Kept.setCell ?_ (by simp<;>omega) _))) (Nat.le_refl _)
theorem parsePush_any {B:Nat} {aE aU aT:Addr} {w:World} (hV:GV B w aE aU aT) (ty fl ln st:Int) (hf0:0≤fl) (hf1:fl<256) (a:Option Addr) (n c:Nat) (b:List Int) (h:RdB w (.slice a n c) b) (hb:Bs b) :
   Calls Tryz.prog 114 #[.pointer none,hdV ty fl ln st,cntV,.slice a n c] w (Parsed aU w (parsePush ⟨ty,fl,ln,st⟩ b)):=by
 by_cases hst:st=0
 · subst hst
   go_enter Tryz.func114,Tryz.ntmps114
   go_wp2_with (go_at_call 44;refine (count_any _ _).mono ?_;rintro e w' ⟨rfl,rfl⟩)
   go_ret2
   exact Parsed.conn rfl (Kept.below (by repeat (first|(with_reducible exact K0 w)|(with_reducible refine Kept.alloc ?_ _)|(with_reducible refine Kept.drawn ?_ _)|(with_reducible refine Kept.setCell ?_ (by simp<;>omega) _))) (Nat.le_refl _))
 cases hbit:bitOf fl 8 with
 | false=>exact parsePush_0 hV ty fl ln st hf0 hf1 a n c b h hb hst hbit
 | true=>exact parsePush_1 hV ty fl ln st hf0 hf1 a n c b h hb hst hbit
end Go.Proofs.YtfdlbjibninakaaGreatDoor

/- Reading: the parser of SETTINGS frames against the plain model. -/
import Derived.Test.YtfdlbjibninakaaGreatDoorPs5
import Derived.IntWalk
set_option linter.unusedVariables false
set_option linter.unusedSimpArgs false
namespace Go.Proofs.YtfdlbjibninakaaGreatDoor
set_option maxRecDepth 10000
set_option maxHeartbeats 8000000
open Go.RowKit
theorem checkValid_any {p:Nat} {w:World} (hc:w.cell? ⟨p,0,none⟩=some (.bool true)):Calls Tryz.prog 91 #[.pointer (some ⟨p,0,none⟩)] w fun e w'=>e = .returned (.tuple #[])∧w=w':=by
 go_enter Tryz.func91,Tryz.ntmps91
 go_wp2
 go_end0
 exact ⟨rfl,rfl⟩
theorem numSettings_any {p:Nat} {w:World} {a:Option Addr} {n c:Nat} (hc:w.cell? ⟨p,5,none⟩=some (.slice a n c)) (hn:n≤9223372036854775807) :
   Calls Tryz.prog 93 #[.pointer (some ⟨p,0,none⟩)] w fun e w'=>e = .returned (.int .i64 ((n / 6:Nat):Int))∧w=w':=by
 go_enter Tryz.func93,Tryz.ntmps93
 go_wp2
 go_ret
 exact ⟨ret_int (by omega),rfl⟩
theorem n16_drop (b:List Int) (m:Nat):n16 (b.drop m) 0=n16 b m:=by
 unfold n16 gb
 simp only [List.getD_eq_getElem?_getD,List.getElem?_drop,Nat.add_zero,Nat.zero_add]
theorem n16_take (b:List Int) (j m:Nat) (hm:j+2≤m):n16 (b.take m) j=n16 b j:=by
 unfold n16 gb
 simp only [List.getD_eq_getElem?_getD]
 rw [List.getElem?_take_of_lt (by omega),List.getElem?_take_of_lt (by omega)]
theorem n32_take' (b:List Int) (j m:Nat) (hm:j+4≤m):n32 (b.take m) j=n32 b j:=by
 unfold n32 gb
 simp only [List.getD_eq_getElem?_getD]
 rw [List.getElem?_take_of_lt (by omega),List.getElem?_take_of_lt (by omega),List.getElem?_take_of_lt (by omega),List.getElem?_take_of_lt (by omega)]
theorem blk_dr8 {w:World} {b:Nat} {o:Obj} (h:w.heap[b]? = some o) (n:Nat):(w.drewN n).heap[b]? = some o:=h
theorem blkEq8 {w:World} {b:Nat} {cs cs':Array Value} {t:TypeId} {fr:Nat × Nat} (h:w.heap[b]? = some (.cells cs t fr)) (e:cs=cs'):w.heap[b]? = some (.cells cs' t fr):=e▸h
theorem infoSet:(Tryz.prog.info? 147).map (·.size)=some 2:=by kernel_rfl
theorem i64_in {n:Int} (h0 : -9223372036854775808≤n) (h1:n≤9223372036854775807):IntKind.i64.wrap n=n:=IntWalk.i64_in _ ⟨by omega,by omega⟩
theorem setting_any {p:Nat} {w:World} {a:Option Addr} {n c:Nat} {b:List Int} (hc:w.cell? ⟨p,5,none⟩=some (.slice a n c)) (h:RdB w (.slice a n c) b) (hb:Bs b) (i:Nat) (hi:6*i+6≤n) :
   Calls Tryz.prog 94 #[.pointer (some ⟨p,0,none⟩),.int .i64 (i:Int)] w fun e w'=>e = .returned (.agg #[.int .u16 (n16 b (6*i)),.int .u32 (n32 b (6*i+2))])∧Below w.heap.size w w':=by
 obtain ⟨hnb,hnc,hcm⟩:=h.len
 have kc:=cell_alloc hc (.cells #[.int .u16 0,.int .u32 0] 147)
 obtain ⟨j,hj⟩:∃j,6*i=j:=⟨_,rfl⟩
 obtain ⟨j2,hj2⟩:∃j2,j+2=j2:=⟨_,rfl⟩
 obtain ⟨j6,hj6⟩:∃j6,j+6=j6:=⟨_,rfl⟩
 rw [hj,hj2]
 have w1:IntKind.i64.wrap ((i:Int)*6)=(j:Int):=by rw [i64_in (by omega) (by omega)];omega
 have w2:IntKind.i64.wrap ((j:Int)+2)=(j2:Int):=by rw [i64_in (by omega) (by omega)];omega
 have w3:IntKind.i64.wrap ((j:Int)+6)=(j6:Int):=by rw [i64_in (by omega) (by omega)];omega
 have hA:=slice_mid (n:=j) (m:=j2) h E5.sl E5s (by omega) (by omega)
 rw [show j2-j=2 by omega] at hA
 obtain ⟨aA,cA,hsA,hrA,-⟩:=hA
 have hB:=slice_mid (n:=j2) (m:=j6) h E5.sl E5s (by omega) (by omega)
 rw [show j6-j2=4 by omega] at hB
 obtain ⟨aB,cB,hsB,hrB,-⟩:=hB
 have bW:Below w.heap.size w (w.alloc (.cells #[.int .u16 0,.int .u32 0] 147)):=((K0 w).alloc _).below (Nat.le_refl _)
 have bE:Below w.heap.size w ((w.alloc (.cells #[.int .u16 0,.int .u32 0] 147)).alloc (.cells #[] 231)):=(((K0 w).alloc _).alloc _).below (Nat.le_refl _)
 have uA:∀W,RdB W (.slice aA 2 cA) ((b.take j2).drop j)→Calls Tryz.prog 123 #[.agg #[],.slice aA 2 cA] W fun e w'=>e = .returned (.int .u16 (n16 b j)) ∧ ∃n,(W.alloc (.cells #[] 231)).drewN n=w':=fun W h=>by
   have:=uint16_any h ((hb.take j2).drop j) (by rw [List.length_drop,List.length_take];omega)
   rwa [n16_drop,n16_take b j j2 (by omega)] at this
 have uB:∀W,RdB W (.slice aB 4 cB) ((b.take j6).drop j2)→Calls Tryz.prog 107 #[.agg #[],.slice aB 4 cB] W fun e w'=>e = .returned (.int .u32 (n32 b j2)) ∧ ∃n,(W.alloc (.cells #[] 231)).drewN n=w':=fun W h=>by
   have:=uint32_any h ((hb.take j6).drop j2) (by rw [List.length_drop,List.length_take];omega)
   rwa [n32_drop,n32_take' b j2 j6 (by omega)] at this
 have uA1:=uA (w.alloc (.cells #[.int .u16 0,.int .u32 0] 147)).drew (show RdB (w.alloc (.cells #[.int .u16 0,.int .u32 0] 147)) _ _ from hrA.below bW)
 have uB1:=uB (w.alloc (.cells #[.int .u16 0,.int .u32 0] 147)).drew (show RdB (w.alloc (.cells #[.int .u16 0,.int .u32 0] 147)) _ _ from hrB.below bW)
 have uA2:=fun k=>uA (((w.alloc (.cells #[.int .u16 0,.int .u32 0] 147)).alloc (.cells #[] 231)).drewN k) (show RdB ((w.alloc (.cells #[.int .u16 0,.int .u32 0] 147)).alloc (.cells #[] 231)) _ _ from hrA.below bE)
 have uB2:=fun k=>uB (((w.alloc (.cells #[.int .u16 0,.int .u32 0] 147)).alloc (.cells #[] 231)).drewN k) (show RdB ((w.alloc (.cells #[.int .u16 0,.int .u32 0] 147)).alloc (.cells #[] 231)) _ _ from hrB.below bE)
 clear uA uB hrA hrB h bW bE hnb hc
 generalize n16 b j=x at *
 generalize n32 b j2=y at *
 clear hj hj2 hj6
 go_enter Tryz.func94,Tryz.ntmps94
 go_wp2
 go_region_held3 (fun _=>True) (exact trivial)
   (first|(go_at_call 123;(with_reducible refine uA1.mono ?_);rintro e w' ⟨rfl,nq,rfl⟩)|(go_at_call 107;(with_reducible refine uB1.mono ?_);rintro e w' ⟨rfl,nq,rfl⟩)|(go_at_call 123;(with_reducible refine (uA2 _).mono ?_);rintro e w' ⟨rfl,nr,rfl⟩)|(go_at_call 107;(with_reducible refine (uB2 _).mono ?_);rintro e w' ⟨rfl,nr,rfl⟩))
 all_goals
   go_wp2
   refine ret_blk rfl w.heap.size 147 #[.int .u16 x,.int .u32 y] rfl (by apply blkEq8;(iterate 24 (first|(with_reducible exact blk_at _ _ (by simp))|(with_reducible apply blk_set)|(with_reducible apply blk_dr8)|(with_reducible apply blk_alloc)|skip));rfl) Tryz.underlying147 infoSet rfl ⟨rfl,?_⟩
   exact Kept.below (by repeat (first|(with_reducible exact K0 w)|(with_reducible refine Kept.alloc ?_ _)|(with_reducible refine Kept.drawn ?_ _)|(with_reducible refine Kept.setCell ?_ (by simp) _))) (Nat.le_refl _)
theorem pairs_skip (P:Int × Int→Bool):∀(k m:Nat) (b:List Int),k≤m→(∀j,j<k→P (n16 b (6*j),n32 b (6*j+2))=false)→(pairs m b).find? P=(pairs (m-k) (b.drop (6*k))).find? P
 | 0,m,b,_,_=>by simp
 | k+1,m,b,hk,h=>by
   obtain ⟨m,rfl⟩:∃m',m=m'+1:=⟨m-1,by omega⟩
   have h0:=h 0 (by omega)
   rw [Nat.mul_zero,Nat.zero_add] at h0
   have ih:=pairs_skip P k m (b.drop 6) (by omega) (fun j hj=>by
     have:=h (j+1) (by omega)
     have e1:n16 (b.drop 6) (6*j)=n16 b (6*(j+1)):=by rw [←n16_drop,List.drop_drop,n16_drop];congr 1;omega
     have e2:n32 (b.drop 6) (6*j+2)=n32 b (6*(j+1)+2):=by rw [←n32_drop,List.drop_drop,n32_drop];congr 1;omega
     rw [e1,e2];exact this)
   show List.find? P ((n16 b 0,n32 b 2)::pairs m (b.drop 6))=_
   rw [List.find?_cons,h0,ih,List.drop_drop,show 6+6*k=6*(k+1) by omega,show m+1-(k+1)=m-k by omega]
theorem firstOf_skip {id:Int} {k m:Nat} {b:List Int} (hk:k≤m) (h:∀j,j<k→n16 b (6*j)≠id):firstOf id (pairs m b)=firstOf id (pairs (m-k) (b.drop (6*k))):=by
 unfold firstOf
 rw [pairs_skip _ k m b hk (fun j hj=>by simpa using h j hj)]
theorem firstOf_hit {id:Int} {m:Nat} {b:List Int} (h:n16 b 0=id):firstOf id (pairs (m+1) b)=n32 b 2:=by
 show (Option.map _ (List.find? _ ((n16 b 0,n32 b 2)::pairs m (b.drop 6)))).getD 0=_
 rw [List.find?_cons_of_pos (by simpa using h)]
 rfl
def ValueOf (w:World) (n:Nat) (b:List Int) (e:Ending) (w':World):Prop:=
 ∃v ok,e = .returned (.tuple #[.int .u32 v,.bool ok])∧(ok=true→firstOf 4 (pairs (n / 6) b)=v)∧(ok=false→firstOf 4 (pairs (n / 6) b)=0)∧Below w.heap.size w w'
theorem value_any {p:Nat} {w:World} {a:Option Addr} {n c:Nat} {b:List Int} (hv:w.cell? ⟨p,0,none⟩=some (.bool true)) (hc:w.cell? ⟨p,5,none⟩=some (.slice a n c)) (h:RdB w (.slice a n c) b) (hb:Bs b) :
   Calls Tryz.prog 128 #[.pointer (some ⟨p,0,none⟩),.int .u16 4] w (ValueOf w n b):=by
 have HL:=Lib.hid h.len
 have hm:n / 6≤9223372036854775807:=by have:=HL.out;omega
 have hcv:=checkValid_any hv
 go_enter Tryz.func128,Tryz.ntmps128
 go_wp2_with (go_at_call 91;refine hcv.mono ?_;rintro e w' ⟨rfl,rfl⟩)
 clear hcv
 go_loopw [6] (fun i wr => ∃k:Nat,i = .int .i64 (k:Int)∧k≤n / 6∧(∀j,j<k→n16 b (6*j)≠4)∧Below w.heap.size w wr) (fun i _=>n / 6-(intOf i).toNat)
 case atStart=>exact ⟨0,rfl,Nat.zero_le _,fun j hj=>by omega,Below.refl _ _⟩
 case round =>
   obtain ⟨k,rfl,hk,hno,hbel⟩:=hrel
   have HN:=Lib.hid hno
   have hc2:=cell_below hc hbel
   have h2:=h.below hbel
   have hns:=numSettings_any hc2 (by have:=HL.out;omega)
   clear hno
   by_cases hkm:k=n / 6
   · have hlt:¬(k:Int)<((n / 6:Nat):Int):=by omega
     have HK:=Lib.hid hkm
     clear hkm hk
     go_wp2_with (go_at_call 93;refine hns.mono ?_;rintro e w' ⟨rfl,rfl⟩)
     go_ret2
     refine ⟨0,false,rfl,fun h=>by (cases h),fun _ => ?_,hbel⟩
     rw [firstOf_skip (k:=n / 6) (Nat.le_refl _) (by rw [←HK.out];exact HN.out),Nat.sub_self]
     rfl
   · have hlt:(k:Int)<((n / 6:Nat):Int):=by omega
     have hst:=setting_any hc2 h2 hb k (by omega)
     have hkn:k<n / 6:=by omega
     have HX:∃x y,n16 b (6*k)=x∧n32 b (6*k+2)=y:=⟨_,_,rfl,rfl⟩
     obtain ⟨x,y,hx,hy⟩:=HX
     rw [hx,hy] at hst
     have HX:=Lib.hid hx
     have HY:=Lib.hid hy
     clear hx hy hkm
     obtain ⟨m,hmm⟩:∃m,n / 6=m:=⟨_,rfl⟩
     rw [hmm] at hlt hns hkn hm hk
     have HM:=Lib.hid hmm
     clear hmm
     by_cases hx4:x=4
     · subst hx4
       go_wp2_with (first|(go_at_call 93;refine hns.mono ?_;rintro e w' ⟨rfl,rfl⟩)|(go_at_call 94;refine hst.mono ?_;rintro e w2 ⟨rfl,hb2⟩))
       go_ret2
       refine ⟨y,true,rfl,fun _ => ?_,fun h=>by (cases h),?_⟩
       · obtain ⟨q,hq⟩:∃q,n / 6-k=q+1:=⟨n / 6-k-1,by have:=HM.out;omega⟩
         rw [firstOf_skip (k:=k) (by have:=HM.out;omega) HN.out,hq,firstOf_hit (by rw [n16_drop];exact HX.out),←n32_drop,List.drop_drop,n32_drop]
         exact HY.out
       · exact (Below.then hbel (Nat.le_refl _) hb2).alloc (by have:=hbel.size;have:=hb2.size;omega) _
     · have hxb:(x==4)=false:=beq_false_of_ne hx4
       have hx4:=Lib.hid hx4
       go_wp2_with (first|(go_at_call 93;refine hns.mono ?_;rintro e w' ⟨rfl,rfl⟩)|(go_at_call 94;refine hst.mono ?_;rintro e w2 ⟨rfl,hb2⟩))
       go_roundw
       case rel =>
         refine ⟨k+1,by go_num,by have:=HM.out;omega,?_,(Below.then hbel (Nat.le_refl _) hb2).alloc (by have:=hbel.size;have:=hb2.size;omega) _⟩
         intro j hj
         by_cases e:j=k
         · subst e;rw [HX.out];exact hx4.out
         · exact HN.out j (by omega)
       case measure=>simp [intOf];have:=HM.out;omega
theorem parseSettings_any {B:Nat} {aE aU aT:Addr} {w:World} (_hV:GV B w aE aU aT) (ty fl ln st:Int) (hf0:0≤fl) (hf1:fl<256) (a:Option Addr) (n c:Nat) (b:List Int) (h:RdB w (.slice a n c) b) (hb:Bs b) :
   Calls Tryz.prog 113 #[.pointer none,hdV ty fl ln st,cntV,.slice a n c] w (Parsed aU w (parseSettings ⟨ty,fl,ln,st⟩ b)):=by
 obtain ⟨hnb,hnc,hcm⟩:=h.len
 rw [←hnb] at hnc
 have HB:=Lib.hid hnb
 clear hnb
 by_cases hA:bitOf fl 1=true∧0<ln
 · obtain ⟨h1,h2⟩:=hA
   go_enter Tryz.func113,Tryz.ntmps113
   go_wp2_with (first
     | (go_at_call 44;refine (count_any _ _).mono ?_;rintro e w' ⟨rfl,rfl⟩)
     | (go_at_call 92;refine (has_any fl 1 (by simp) hf0 hf1 _).mono ?_;rintro e w' ⟨rfl,rfl⟩))
   go_ret2
   exact Parsed.conn (by unfold parseSettings;rw [if_pos ⟨h1,h2⟩]) (((K0 w).alloc _).below (Nat.le_refl _))
 have HA:=Lib.hid hA
 have hcase:bitOf fl 1=false∨bitOf fl 1=true ∧ ¬ln>0:=by
   cases hq:bitOf fl 1 with
   | false=>exact .inl rfl
   | true=>exact .inr ⟨rfl,fun h=>hA ⟨hq,h⟩⟩
 clear hA
 by_cases hst:st=0
 · subst hst
   by_cases h6:n%6=0
   · have h6i:((n:Int)%6 != 0)=false:=by simp;omega
     have H6:=Lib.hid h6
     clear h6
     have bW:Below w.heap.size w ((w.alloc (.cells #[.bool true,.int .u8 ty,.int .u8 fl,.int .u32 ln,.int .u32 0] 113)).alloc (.cells #[.bool true,.int .u8 ty,.int .u8 fl,.int .u32 ln,.int .u32 0,.slice a n c] 218)):=(((K0 w).alloc _).alloc _).below (Nat.le_refl _)
     have bS:=blk_at (n:=w.heap.size+1) (w.alloc (.cells #[.bool true,.int .u8 ty,.int .u8 fl,.int .u32 ln,.int .u32 0] 113)) (.cells #[.bool true,.int .u8 ty,.int .u8 fl,.int .u32 ln,.int .u32 0,.slice a n c] 218) (by simp)
     have hval:=value_any (p:=w.heap.size+1) (blk_cell bS 0) (blk_cell bS 5) (h.below bW) hb
     rcases hcase with hbit|⟨hbit,hln⟩
     all_goals
       go_enter Tryz.func113,Tryz.ntmps113
       go_wp2_with (first
     | (go_at_call 44;refine (count_any _ _).mono ?_;rintro e w' ⟨rfl,rfl⟩)
     | (go_at_call 92;refine (has_any fl 1 (by simp) hf0 hf1 _).mono ?_;rintro e w' ⟨rfl,rfl⟩)
     | (go_at_call 128;refine hval.mono ?_;rintro e w2 ⟨v,ok,rfl,hv1,hv0,hb2⟩))
       all_goals
         go_ret2
         have hb3:=Below.then bW (Nat.le_refl _) hb2
         have e6:¬b.length%6≠0:=by rw [←HB.out,H6.out];simp
         first
           | exact Parsed.conn (by unfold parseSettings;rw [if_neg HA.out,if_neg (by simp),if_neg e6,if_pos (by rw [←HB.out,hv1 (by assumption)];omega)]) hb3
           | exact Parsed.ok (FrV.settings ⟨ty,fl,ln,0⟩ b (w.heap.size+1) (.slice a n c) (by omega) (blk_below bS hb2) (h.below hb3) (by omega) hb) (by unfold parseSettings;rw [if_neg HA.out,if_neg (by simp),if_neg e6,if_neg (by rw [←HB.out,hv1 (by assumption)];omega)]) hb3
           | exact Parsed.ok (FrV.settings ⟨ty,fl,ln,0⟩ b (w.heap.size+1) (.slice a n c) (by omega) (blk_below bS hb2) (h.below hb3) (by omega) hb) (by unfold parseSettings;rw [if_neg HA.out,if_neg (by simp),if_neg e6,if_neg (by rw [←HB.out,hv0 (by cases ok<;>simp_all)];omega)]) hb3
   have h6i:((n:Int)%6 != 0)=true:=by simp;omega
   have H6:=Lib.hid h6
   clear h6
   rcases hcase with hbit|⟨hbit,hln⟩
   all_goals
     go_enter Tryz.func113,Tryz.ntmps113
     go_wp2_with (first
     | (go_at_call 44;refine (count_any _ _).mono ?_;rintro e w' ⟨rfl,rfl⟩)
     | (go_at_call 92;refine (has_any fl 1 (by simp) hf0 hf1 _).mono ?_;rintro e w' ⟨rfl,rfl⟩))
     go_ret2
     exact Parsed.conn (by unfold parseSettings;rw [if_neg HA.out,if_neg (by simp),if_pos (by rw [←HB.out];exact H6.out)]) (((K0 w).alloc _).below (Nat.le_refl _))
 have hs:(st != 0)=true:=by simp;exact hst
 have hst:=Lib.hid hst
 rcases hcase with hbit|⟨hbit,hln⟩
 all_goals
   go_enter Tryz.func113,Tryz.ntmps113
   go_wp2_with (first
     | (go_at_call 44;refine (count_any _ _).mono ?_;rintro e w' ⟨rfl,rfl⟩)
     | (go_at_call 92;refine (has_any fl 1 (by simp) hf0 hf1 _).mono ?_;rintro e w' ⟨rfl,rfl⟩))
   go_ret2
   exact Parsed.conn (by unfold parseSettings;rw [if_neg HA.out,if_pos hst.out]) (((K0 w).alloc _).below (Nat.le_refl _))
end Go.Proofs.YtfdlbjibninakaaGreatDoor

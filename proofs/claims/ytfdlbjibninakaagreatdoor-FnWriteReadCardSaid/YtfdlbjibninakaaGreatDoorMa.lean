/- spec.Matches: results that are those that are wanted. -/
import Derived.Test.YtfdlbjibninakaaGreatDoorIr
import Derived.Test.YtfdlbjibninakaaGreatDoorEq
import Derived.Test.YtfdlbjibninakaaGreatDoorIp1
set_option linter.unusedVariables false
set_option linter.unusedSimpArgs false
namespace Go.Proofs.YtfdlbjibninakaaGreatDoor
set_option maxRecDepth 10000
set_option maxHeartbeats 4000000
open Go.RowKit
theorem resR_at {T:Nat} {w:World} {va:Option Addr} {vc n:Nat} {rs:List Rs} (h:ResR T w (.slice va n vc) rs) {k:Nat} (hk:k<rs.length):∃g dv sv,va=some ⟨g,0,none⟩∧RdB w dv rs[k].x.data∧RdP w sv rs[k].x.set ∧ ∀j u,(rsX rs[k] dv sv)[j]? = some u→w.cell? ⟨g,k*17+j,none⟩=some u:=by
 obtain ⟨ys,hrow,hall⟩:=h
 obtain ⟨dv,sv,hd,-,hs,-,hx⟩:=hall.at (List.getElem?_eq_getElem hk)
 obtain ⟨g,c,e,-⟩:=own_cell hrow (k*17) _ (hx 0 _ rfl)
 cases e
 refine ⟨g,dv,sv,rfl,hd,hs,fun j u hu => ?_⟩
 obtain ⟨g',c',e',hc⟩:=own_cell hrow _ _ (hx j u hu)
 cases e'
 exact hc
def rsRead:List Rs:=[.ok { Fr.zero with ty:=4 },.bad 1 0 0]
theorem readAll_reads:readAll 16777215 0 [0,0,0,4,0,0,0,0,0]=rsRead:=by
 have e:one 16777215 0 [0,0,0,4,0,0,0,0,0]=(.ok { Fr.zero with ty:=4 },0,[]):=rfl
 have e2:one 16777215 0 []=(.bad 1 0 0,0,[]):=rfl
 rw [readAll_go (by rw [e];rfl),e,readAll_stop (by rw [e2];rfl),e2]
 rfl
def YesEnd (w:World) (e:Ending) (w':World):Prop:=e = .returned (.bool true)∧Below w.heap.size w w'
theorem rd9 (w:World):RdB (w.alloc (.cells #[.int .u8 0,.int .u8 0,.int .u8 0,.int .u8 4,.int .u8 0,.int .u8 0,.int .u8 0,.int .u8 0,.int .u8 0] 5)) (.slice (some ⟨w.heap.size,0,none⟩) 9 9) [0,0,0,4,0,0,0,0,0]:=by
 refine ⟨_,9,rfl,Nat.le_refl _,by unfold maxLen;omega,fun j x hj=>⟨w.heap.size,0,rfl,?_⟩⟩
 rw [Nat.zero_add,blk_cell (blk_new w _)]
 match j with
 | 0=>simp at hj;subst hj;rfl
 | 1=>simp at hj;subst hj;rfl
 | 2=>simp at hj;subst hj;rfl
 | 3=>simp at hj;subst hj;rfl
 | 4=>simp at hj;subst hj;rfl
 | 5=>simp at hj;subst hj;rfl
 | 6=>simp at hj;subst hj;rfl
 | 7=>simp at hj;subst hj;rfl
 | 8=>simp at hj;subst hj;rfl
 | j+9=>simp at hj
theorem reads_any {B:Nat} {aE aU aT:Addr} {w:World} (hV:GV B w aE aU aT) (hB:B≤w.heap.size):Calls Tryz.prog 12 #[] w (YesEnd w):=by
 have b1:Below w.heap.size w (w.alloc (.cells #[.int .u8 0,.int .u8 0,.int .u8 0,.int .u8 4,.int .u8 0,.int .u8 0,.int .u8 0,.int .u8 0,.int .u8 0] 5)):=((Kept.refl (· < w.heap.size) w).alloc _).below (Nat.le_refl _)
 have hr:=implRead_any (pcs:=.slice none 0 0) (ps:=[]) (hV.below b1) (by simp;omega) (rd9 w) ⟨none,0,rfl,Nat.le_refl _,Nat.zero_le _,fun j x h=>by simp at h⟩ (by intro x hx;simp at hx;omega) (by simp) 0 (by omega) (by omega)
 rw [mxOf_neg (by omega),readAll_reads] at hr
 go_enter Tryz.func12,Tryz.ntmps12
 go_wp2_with (go_at_call 10;refine hr.mono ?_;rintro e w1 ⟨v,rfl,hb1,hR,hf⟩;obtain ⟨va,vc,rfl,hvc,hvm⟩:=own_shape hR.choose_spec.1;obtain ⟨g,dv,sv,rfl,-,-,hx⟩:=resR_at hR (k:=0) (by decide);obtain ⟨g',dv',sv',eg,-,-,hx'⟩:=resR_at hR (k:=1) (by decide);cases eg;have c0:w1.cell? ⟨g,0,none⟩=some (.int .i64 0):=hx 0 _ rfl;have c3:w1.cell? ⟨g,3,none⟩=some (.int .i64 4):=hx 3 _ rfl;have c17:w1.cell? ⟨g,17,none⟩=some (.int .i64 1):=hx' 0 _ rfl;clear hx hx' hR hf)
 go_ret
 exact ⟨rfl,Below.step b1 hb1⟩
end Go.Proofs.YtfdlbjibninakaaGreatDoor

namespace Go.Proofs.YtfdlbjibninakaaGreatDoor
set_option maxRecDepth 10000
set_option maxHeartbeats 16000000
open Go.RowKit
section
variable {P : Program} {ops : Array Oper} {rest : List Oper} {o : Oper} {a : Act} {Q : Exit → Act → World → Prop} {w : World}
theorem wpList_load_g (hgd:Region.wanted o (yielded ops a.tmps)=true) (T:TypeId) (x:Operand) (ho:o.op = .load T x) (g off:Nat) (hx:a.eval x = .pointer (some ⟨g,off,none⟩)) (cs:Array Value) {fs:Array Field}
   (hc:∀j v,cs[j]? = some v→w.cell? ⟨g,off+j,none⟩=some v) (hu:P.underlying T=some (.struct fs)) (hi:(P.info? T).map (·.size)=some cs.size)
   (h:wpList P ops Q rest (a.put o.dst (.agg cs)) w):wpList P ops Q (o::rest) a w:=
 wpList_step fun _ hK=>by
   rw [if_pos hgd]
   exact wp_load_at T x ho g off hx cs hc hu hi (hK _ _ h)
end
theorem rsX_eq (r:Rs) (dv sv:Value):rsX r dv sv=rsC r.f r.c r.s (frX r.x dv sv):=rfl
theorem rs_frame {r:Rs} {dv sv:Value} {w:World} {b:Nat} {t:TypeId} (h:w.heap[b]? = some (.cells (rsX r dv sv) t (0,0))):∀j v,(frX r.x dv sv)[j]? = some v→w.cell? ⟨b,3+j,none⟩=some v:=by
 intro j v hj
 rw [blk_cell h,rsX_eq]
 unfold rsC
 rw [Array.getElem?_append_right (by simp)]
 simpa using hj
theorem matches_yes {w:World} {v1 v2:Value} {q:Bool} {ws gs:List Rs} (hm:Pl.Mat q ws gs) (h1:ResR 31 w v1 ws) (h2:ResR 31 w v2 gs) :
   Calls Tryz.prog 11 #[v1,v2,.bool q] w (YesEnd w):=by
 obtain ⟨a1,c1,rfl,hc1,hx1⟩:=own_shape h1.choose_spec.1
 obtain ⟨a2,c2,rfl,hc2,hx2⟩:=own_shape h2.choose_spec.1
 have hlen:=hm.len
 have hle:ws.length≤gs.length:=hlen.1
 have hnm:ws.length≤9223372036854775807:=by unfold maxLen at hx1;omega
 have hgm:gs.length≤9223372036854775807:=by unfold maxLen at hx2;omega
 have hlt0:¬(gs.length:Int)<ws.length:=by omega
 have H1:=Lib.hid h1
 have H2:=Lib.hid h2
 have HM:=Lib.hid hm
 cases q with
 | true =>
   have hq:((gs.length:Int) != ws.length)=false:=by have:=hlen.2 rfl;simp [this]
   clear hlen h1 h2 hm
   go_enter Tryz.func11,Tryz.ntmps11
   go_wp2
   go_loopw [27] (fun i wr => ∃k:Nat,k≤ws.length∧i = .int .i64 k∧Below w.heap.size w wr) (fun i _=>ws.length-(intOf i).toNat)
   case atStart=>exact ⟨0,Nat.zero_le _,rfl,Below.refl _ _⟩
   case round =>
     obtain ⟨k,hk,rfl,hbel⟩:=hrel
     by_cases hlt:k<ws.length
     · obtain ⟨g,hgs,heq⟩:=HM.out.at (List.getElem?_eq_getElem hlt)
       obtain ⟨hlt2,hge⟩:=List.getElem?_eq_some_iff.1 hgs
       obtain ⟨b1,dv,sv,rfl,hd1,hs1,hcl1⟩:=resR_at H1.out hlt
       obtain ⟨b2,ev,tv,rfl,hd2,hs2,hcl2⟩:=resR_at H2.out hlt2
       rw [hge] at hd2 hs2 hcl2
       generalize ws[k]=x at heq hd1 hs1 hcl1
       obtain ⟨d1,e1,rfl,-,-,-⟩:=id hd1
       obtain ⟨s1,t1,rfl,-,-,-⟩:=id hs1
       obtain ⟨d2,e2,rfl,-,-,-⟩:=id hd2
       obtain ⟨s2,t2,rfl,-,-,-⟩:=id hs2
       obtain ⟨fr1,hf1,hz1,hi1,ho1,q10,q11,q12⟩:∃fr:Array Value,rsX x (.slice d1 x.x.data.length e1) (.slice s1 x.x.set.length t1)=fr∧fr.size=17∧(Tryz.prog.info? 31).map (·.size)=some fr.size∧(∀u∈fr.toList,u.oneCell'=true)∧fr[0]? = some (.int .i64 x.f)∧fr[1]? = some (.int .u32 x.c)∧fr[2]? = some (.int .u32 x.s):=⟨_,rfl,rfl,infoRs,rsX_one _ _ _ _ _ _ _,rfl,rfl,rfl⟩
       obtain ⟨fr2,hf2,hz2,hi2,ho2,q20,q21,q22⟩:∃fr:Array Value,rsX g (.slice d2 g.x.data.length e2) (.slice s2 g.x.set.length t2)=fr∧fr.size=17∧(Tryz.prog.info? 31).map (·.size)=some fr.size∧(∀u∈fr.toList,u.oneCell'=true)∧fr[0]? = some (.int .i64 g.f)∧fr[1]? = some (.int .u32 g.c)∧fr[2]? = some (.int .u32 g.s):=⟨_,rfl,rfl,infoRs,rsX_one _ _ _ _ _ _ _,rfl,rfl,rfl⟩
       rw [hf1] at hcl1
       rw [hf2] at hcl2
       have C1:Hid (∀j u,fr1[j]? = some u→wr.cell? ⟨b1,k*17+j,none⟩=some u):=Lib.hid fun j u hu=>cell_below (hcl1 j u hu) hbel
       have C2:Hid (∀j u,fr2[j]? = some u→wr.cell? ⟨b2,k*17+j,none⟩=some u):=Lib.hid fun j u hu=>cell_below (hcl2 j u hu) hbel
       have F1:=Lib.hid hf1
       have F2:=Lib.hid hf2
       have D1:=Lib.hid hd1
       have D2:=Lib.hid hd2
       have S1:=Lib.hid hs1
       have S2:=Lib.hid hs2
       have Q10:=Lib.hid q10
       have Q11:=Lib.hid q11
       have Q12:=Lib.hid q12
       have Q20:=Lib.hid q20
       have Q21:=Lib.hid q21
       have Q22:=Lib.hid q22
       clear hf1 hf2 hd1 hd2 hs1 hs2 hcl1 hcl2 hgs hge q10 q11 q12 q20 q21 q22
       have hltg:(k:Int)<gs.length:=by omega
       rcases heq with ⟨h7,h0⟩|⟨h7,rfl⟩
       · have HQ:Hid (fr1[0]? = some (.int .i64 7)):=Lib.hid (by rw [Q10.out,h7])
         have hn0:(g.f != 0)=true:=by simpa using h0
         clear h7 h0
         go_wp2_with (first
           | (refine wpList_load_at rfl _ _ rfl b1 (k*17) rfl fr1 C1.out Tryz.underlying31 hi1 ?_)
           | (refine wpList_store_blk rfl _ _ _ rfl wr.heap.size rfl fr1 _ rfl 31 (blk_new _ _) hz1 hi1 ho1 ?_;intro w1 hb1 k1;have B1:=below_new k1)
           | (refine wpList_load_at rfl _ _ rfl b2 (k*17) rfl fr2 (fun j u hu=>cell_below (C2.out j u hu) B1) Tryz.underlying31 hi2 ?_)
           | (refine wpList_store_blk rfl _ _ _ rfl w1.heap.size rfl fr2 _ rfl 31 (blk_new _ _) hz2 hi2 ho2 ?_;intro w2 hb2 k2;have A0:w2.cell? ⟨wr.heap.size,0,none⟩=some (.int .i64 7):=cell_below ((blk_cell hb1 0).trans HQ.out) (below_new k2);have B0:w2.cell? ⟨w1.heap.size,0,none⟩=some (.int .i64 g.f):=(blk_cell hb2 0).trans Q20.out))
         go_roundw
         case rel=>exact ⟨k+1,by omega,by go_num,Below.step hbel (Below.step B1 (below_new k2))⟩
         case measure=>simp [intOf];omega
       · have hx7:(x.f==7)=false:=beq_false_of_ne h7
         clear h7
         go_wp2_with (first
           | (refine wpList_load_at rfl _ _ rfl b1 (k*17) rfl fr1 C1.out Tryz.underlying31 hi1 ?_)
           | (refine wpList_store_blk rfl _ _ _ rfl wr.heap.size rfl fr1 _ rfl 31 (blk_new _ _) hz1 hi1 ho1 ?_;intro w1 hb1 k1;have B1:=below_new k1)
           | (refine wpList_load_at rfl _ _ rfl b2 (k*17) rfl fr2 (fun j u hu=>cell_below (C2.out j u hu) B1) Tryz.underlying31 hi2 ?_)
           | (refine wpList_store_blk rfl _ _ _ rfl w1.heap.size rfl fr2 _ rfl 31 (blk_new _ _) hz2 hi2 ho2 ?_;intro w2 hb2 k2;have B2:=below_new k2;have hb12:=blk_below hb1 B2;have A0:w2.cell? ⟨wr.heap.size,0,none⟩=some (.int .i64 x.f):=(blk_cell hb12 0).trans Q10.out;have A1:w2.cell? ⟨wr.heap.size,1,none⟩=some (.int .u32 x.c):=(blk_cell hb12 1).trans Q11.out;have A2:w2.cell? ⟨wr.heap.size,2,none⟩=some (.int .u32 x.s):=(blk_cell hb12 2).trans Q12.out;
              have B0:w2.cell? ⟨w1.heap.size,0,none⟩=some (.int .i64 x.f):=(blk_cell hb2 0).trans Q20.out;have B1':w2.cell? ⟨w1.heap.size,1,none⟩=some (.int .u32 x.c):=(blk_cell hb2 1).trans Q21.out;have B2':w2.cell? ⟨w1.heap.size,2,none⟩=some (.int .u32 x.s):=(blk_cell hb2 2).trans Q22.out;have BW:=Below.step hbel (Below.step B1 B2))
           | (refine wpList_load_g rfl 29 _ rfl wr.heap.size 3 rfl (frX x.x (.slice d1 x.x.data.length e1) (.slice s1 x.x.set.length t1)) (rs_frame (r:=x) (by rw [F1.out];exact hb12)) Tryz.underlying29 infoFs ?_)
           | (refine wpList_load_g rfl 29 _ rfl w1.heap.size 3 rfl (frX x.x (.slice d2 x.x.data.length e2) (.slice s2 x.x.set.length t2)) (rs_frame (r:=x) (by rw [F2.out];exact hb2)) Tryz.underlying29 infoFs ?_)
           | (go_at_call 20;refine (equal_yes x.x _ _ _ _ w2 (D1.out.below BW) (D2.out.below BW) (S1.out.below BW) (S2.out.below BW)).mono ?_;rintro e w3 ⟨rfl,hb3⟩))
         go_roundw
         case rel=>exact ⟨k+1,by omega,by go_num,Below.step BW hb3⟩
         case measure=>simp [intOf];omega
     · clear hlt0
       go_wp2
       go_ret
       exact ⟨rfl,hbel⟩
 | false =>
   clear hlen h1 h2 hm
   go_enter Tryz.func11,Tryz.ntmps11
   go_wp2
   go_loopw [27] (fun i wr => ∃k:Nat,k≤ws.length∧i = .int .i64 k∧Below w.heap.size w wr) (fun i _=>ws.length-(intOf i).toNat)
   case atStart=>exact ⟨0,Nat.zero_le _,rfl,Below.refl _ _⟩
   case round =>
     obtain ⟨k,hk,rfl,hbel⟩:=hrel
     by_cases hlt:k<ws.length
     · obtain ⟨g,hgs,heq⟩:=HM.out.at (List.getElem?_eq_getElem hlt)
       obtain ⟨hlt2,hge⟩:=List.getElem?_eq_some_iff.1 hgs
       obtain ⟨b1,dv,sv,rfl,hd1,hs1,hcl1⟩:=resR_at H1.out hlt
       obtain ⟨b2,ev,tv,rfl,hd2,hs2,hcl2⟩:=resR_at H2.out hlt2
       rw [hge] at hd2 hs2 hcl2
       generalize ws[k]=x at heq hd1 hs1 hcl1
       obtain ⟨d1,e1,rfl,-,-,-⟩:=id hd1
       obtain ⟨s1,t1,rfl,-,-,-⟩:=id hs1
       obtain ⟨d2,e2,rfl,-,-,-⟩:=id hd2
       obtain ⟨s2,t2,rfl,-,-,-⟩:=id hs2
       obtain ⟨fr1,hf1,hz1,hi1,ho1,q10,q11,q12⟩:∃fr:Array Value,rsX x (.slice d1 x.x.data.length e1) (.slice s1 x.x.set.length t1)=fr∧fr.size=17∧(Tryz.prog.info? 31).map (·.size)=some fr.size∧(∀u∈fr.toList,u.oneCell'=true)∧fr[0]? = some (.int .i64 x.f)∧fr[1]? = some (.int .u32 x.c)∧fr[2]? = some (.int .u32 x.s):=⟨_,rfl,rfl,infoRs,rsX_one _ _ _ _ _ _ _,rfl,rfl,rfl⟩
       obtain ⟨fr2,hf2,hz2,hi2,ho2,q20,q21,q22⟩:∃fr:Array Value,rsX g (.slice d2 g.x.data.length e2) (.slice s2 g.x.set.length t2)=fr∧fr.size=17∧(Tryz.prog.info? 31).map (·.size)=some fr.size∧(∀u∈fr.toList,u.oneCell'=true)∧fr[0]? = some (.int .i64 g.f)∧fr[1]? = some (.int .u32 g.c)∧fr[2]? = some (.int .u32 g.s):=⟨_,rfl,rfl,infoRs,rsX_one _ _ _ _ _ _ _,rfl,rfl,rfl⟩
       rw [hf1] at hcl1
       rw [hf2] at hcl2
       have C1:Hid (∀j u,fr1[j]? = some u→wr.cell? ⟨b1,k*17+j,none⟩=some u):=Lib.hid fun j u hu=>cell_below (hcl1 j u hu) hbel
       have C2:Hid (∀j u,fr2[j]? = some u→wr.cell? ⟨b2,k*17+j,none⟩=some u):=Lib.hid fun j u hu=>cell_below (hcl2 j u hu) hbel
       have F1:=Lib.hid hf1
       have F2:=Lib.hid hf2
       have D1:=Lib.hid hd1
       have D2:=Lib.hid hd2
       have S1:=Lib.hid hs1
       have S2:=Lib.hid hs2
       have Q10:=Lib.hid q10
       have Q11:=Lib.hid q11
       have Q12:=Lib.hid q12
       have Q20:=Lib.hid q20
       have Q21:=Lib.hid q21
       have Q22:=Lib.hid q22
       clear hf1 hf2 hd1 hd2 hs1 hs2 hcl1 hcl2 hgs hge q10 q11 q12 q20 q21 q22
       have hltg:(k:Int)<gs.length:=by omega
       rcases heq with ⟨h7,h0⟩|⟨h7,rfl⟩
       · have HQ:Hid (fr1[0]? = some (.int .i64 7)):=Lib.hid (by rw [Q10.out,h7])
         have hn0:(g.f != 0)=true:=by simpa using h0
         clear h7 h0
         go_wp2_with (first
           | (refine wpList_load_at rfl _ _ rfl b1 (k*17) rfl fr1 C1.out Tryz.underlying31 hi1 ?_)
           | (refine wpList_store_blk rfl _ _ _ rfl wr.heap.size rfl fr1 _ rfl 31 (blk_new _ _) hz1 hi1 ho1 ?_;intro w1 hb1 k1;have B1:=below_new k1)
           | (refine wpList_load_at rfl _ _ rfl b2 (k*17) rfl fr2 (fun j u hu=>cell_below (C2.out j u hu) B1) Tryz.underlying31 hi2 ?_)
           | (refine wpList_store_blk rfl _ _ _ rfl w1.heap.size rfl fr2 _ rfl 31 (blk_new _ _) hz2 hi2 ho2 ?_;intro w2 hb2 k2;have A0:w2.cell? ⟨wr.heap.size,0,none⟩=some (.int .i64 7):=cell_below ((blk_cell hb1 0).trans HQ.out) (below_new k2);have B0:w2.cell? ⟨w1.heap.size,0,none⟩=some (.int .i64 g.f):=(blk_cell hb2 0).trans Q20.out))
         go_roundw
         case rel=>exact ⟨k+1,by omega,by go_num,Below.step hbel (Below.step B1 (below_new k2))⟩
         case measure=>simp [intOf];omega
       · have hx7:(x.f==7)=false:=beq_false_of_ne h7
         clear h7
         go_wp2_with (first
           | (refine wpList_load_at rfl _ _ rfl b1 (k*17) rfl fr1 C1.out Tryz.underlying31 hi1 ?_)
           | (refine wpList_store_blk rfl _ _ _ rfl wr.heap.size rfl fr1 _ rfl 31 (blk_new _ _) hz1 hi1 ho1 ?_;intro w1 hb1 k1;have B1:=below_new k1)
           | (refine wpList_load_at rfl _ _ rfl b2 (k*17) rfl fr2 (fun j u hu=>cell_below (C2.out j u hu) B1) Tryz.underlying31 hi2 ?_)
           | (refine wpList_store_blk rfl _ _ _ rfl w1.heap.size rfl fr2 _ rfl 31 (blk_new _ _) hz2 hi2 ho2 ?_;intro w2 hb2 k2;have B2:=below_new k2;have hb12:=blk_below hb1 B2;have A0:w2.cell? ⟨wr.heap.size,0,none⟩=some (.int .i64 x.f):=(blk_cell hb12 0).trans Q10.out;have A1:w2.cell? ⟨wr.heap.size,1,none⟩=some (.int .u32 x.c):=(blk_cell hb12 1).trans Q11.out;have A2:w2.cell? ⟨wr.heap.size,2,none⟩=some (.int .u32 x.s):=(blk_cell hb12 2).trans Q12.out;
              have B0:w2.cell? ⟨w1.heap.size,0,none⟩=some (.int .i64 x.f):=(blk_cell hb2 0).trans Q20.out;have B1':w2.cell? ⟨w1.heap.size,1,none⟩=some (.int .u32 x.c):=(blk_cell hb2 1).trans Q21.out;have B2':w2.cell? ⟨w1.heap.size,2,none⟩=some (.int .u32 x.s):=(blk_cell hb2 2).trans Q22.out;have BW:=Below.step hbel (Below.step B1 B2))
           | (refine wpList_load_g rfl 29 _ rfl wr.heap.size 3 rfl (frX x.x (.slice d1 x.x.data.length e1) (.slice s1 x.x.set.length t1)) (rs_frame (r:=x) (by rw [F1.out];exact hb12)) Tryz.underlying29 infoFs ?_)
           | (refine wpList_load_g rfl 29 _ rfl w1.heap.size 3 rfl (frX x.x (.slice d2 x.x.data.length e2) (.slice s2 x.x.set.length t2)) (rs_frame (r:=x) (by rw [F2.out];exact hb2)) Tryz.underlying29 infoFs ?_)
           | (go_at_call 20;refine (equal_yes x.x _ _ _ _ w2 (D1.out.below BW) (D2.out.below BW) (S1.out.below BW) (S2.out.below BW)).mono ?_;rintro e w3 ⟨rfl,hb3⟩))
         go_roundw
         case rel=>exact ⟨k+1,by omega,by go_num,Below.step BW hb3⟩
         case measure=>simp [intOf];omega
     · clear hlt0
       go_wp2
       go_ret
       exact ⟨rfl,hbel⟩
end Go.Proofs.YtfdlbjibninakaaGreatDoor

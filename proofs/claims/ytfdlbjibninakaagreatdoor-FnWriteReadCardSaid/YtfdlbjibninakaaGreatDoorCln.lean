/- spec.Clean at any frame: true only where the frame has nothing but what its type has. -/
import Derived.Test.YtfdlbjibninakaaGreatDoorCf
import Derived.Test.YtfdlbjibninakaaGreatDoorWz
import Derived.Test.YtfdlbjibninakaaGreatDoorEqg
import Derived.Deep.RegionHeld3
set_option linter.unusedVariables false
set_option linter.unusedSimpArgs false
namespace Go.Proofs.YtfdlbjibninakaaGreatDoor
set_option maxRecDepth 10000
set_option maxHeartbeats 2000000
open Go.RowKit
def flF (ty:Int):Int:=if ty=0 then 1 else if ty=1 then 5 else if ty=5∨ty=9 then 4 else if ty=4∨ty=6 then 1 else if ty=2∨ty=3∨ty=7∨ty=8∨ty=16 then 0 else 255
theorem flags_any (ty:Int) (w:World):Calls Tryz.prog 61 #[.int .i64 ty] w fun e w'=>e = .returned (.int .i64 (flF ty))∧w=w':=by
 have kF:flF ty=flF ty:=rfl
 obtain ⟨F,hF⟩:∃F,flF ty=F:=⟨_,rfl⟩
 rw [hF]
 unfold flF at hF
 by_cases h0:ty=0
 · rw [if_pos h0] at hF
   subst h0 hF
   go_enter Tryz.func61,Tryz.ntmps61
   go_wp2
   go_ret
   exact ⟨rfl,rfl⟩
 rw [if_neg h0] at hF
 have b0:(ty==0)=false:=beq_false_of_ne h0
 by_cases h1:ty=1
 · rw [if_pos h1] at hF
   subst h1 hF
   go_enter Tryz.func61,Tryz.ntmps61
   go_wp2
   go_ret
   exact ⟨rfl,rfl⟩
 rw [if_neg h1] at hF
 have b1:(ty==1)=false:=beq_false_of_ne h1
 by_cases h5:ty=5∨ty=9
 · rw [if_pos h5] at hF
   rcases h5 with h|h
   all_goals
     subst h hF
     go_enter Tryz.func61,Tryz.ntmps61
     go_wp2
     go_ret
     exact ⟨rfl,rfl⟩
 rw [if_neg h5] at hF
 have b5:(ty==5)=false:=beq_false_of_ne fun e=>h5 (.inl e)
 have b9:(ty==9)=false:=beq_false_of_ne fun e=>h5 (.inr e)
 by_cases h4:ty=4∨ty=6
 · rw [if_pos h4] at hF
   rcases h4 with h|h
   all_goals
     subst h hF
     go_enter Tryz.func61,Tryz.ntmps61
     go_wp2
     go_ret
     exact ⟨rfl,rfl⟩
 rw [if_neg h4] at hF
 have b4:(ty==4)=false:=beq_false_of_ne fun e=>h4 (.inl e)
 have b6:(ty==6)=false:=beq_false_of_ne fun e=>h4 (.inr e)
 by_cases h2:ty=2∨ty=3∨ty=7∨ty=8∨ty=16
 · rw [if_pos h2] at hF
   rcases h2 with h|h|h|h|h
   all_goals
     subst h hF
     go_enter Tryz.func61,Tryz.ntmps61
     go_wp2
     go_ret
     exact ⟨rfl,rfl⟩
 rw [if_neg h2] at hF
 have b2:(ty==2)=false:=beq_false_of_ne fun e=>h2 (by simp [e])
 have b3:(ty==3)=false:=beq_false_of_ne fun e=>h2 (by simp [e])
 have b7:(ty==7)=false:=beq_false_of_ne fun e=>h2 (by simp [e])
 have b8:(ty==8)=false:=beq_false_of_ne fun e=>h2 (by simp [e])
 have b16:(ty==16)=false:=beq_false_of_ne fun e=>h2 (by simp [e])
 subst hF
 clear kF h0 h1 h5 h4 h2
 go_enter Tryz.func61,Tryz.ntmps61
 go_wp2
 go_ret
 exact ⟨rfl,rfl⟩
def ZeroEnd (w:World) (l:List Int) (e:Ending) (w':World):Prop := ∃q:Bool,e = .returned (.bool q)∧(q=true ↔ ∀x∈l,x=0)∧w=w'
theorem zero_any {w:World} {v:Value} {l:List Int} (h:RdB w v l):Calls Tryz.prog 63 #[v] w (ZeroEnd w l):=by
 obtain ⟨a,c,rfl,hc,hm,hx⟩:=h
 have HX:=Lib.hid hx
 unfold maxLen at hm
 clear hx
 go_enter Tryz.func63,Tryz.ntmps63
 go_wp2_with fail
 go_loopw [7] (fun i wr => ∃k:Nat,k≤l.length∧i = .int .i64 k∧(∀x∈l.take k,x=0)∧w=wr) (fun i _=>l.length-(intOf i).toNat)
 case atStart=>exact ⟨0,Nat.zero_le _,rfl,fun x hx=>by simp at hx,rfl⟩
 case round =>
   obtain ⟨k,hk,rfl,hz,rfl⟩:=hrel
   have HZ:=Lib.hid hz
   clear hz
   by_cases hlt:k<l.length
   · obtain ⟨b,o,rfl,hcell⟩:=HX.out k _ (List.getElem?_eq_getElem hlt)
     have hsn:l.take (k+1)=l.take k ++ [l[k]]:=List.take_succ_eq_append_getElem hlt
     have HSN:=Lib.hid hsn
     clear hsn
     have hki:(k:Int)<l.length:=by omega
     have hmem:=List.getElem_mem hlt
     generalize l[k]=y at *
     have HM:=Lib.hid hmem
     clear hmem
     by_cases hy:y=0
     · subst hy
       go_wp2_with fail
       go_roundw
       case rel =>
         refine ⟨k+1,by omega,by go_num,fun x hx => ?_,by trivial⟩
         rw [HSN.out] at hx
         rcases List.mem_append.1 hx with h|h
         · exact HZ.out x h
         · exact List.mem_singleton.1 h
       case measure=>simp [intOf];omega
     · have hb:(y != 0)=true:=by simpa using hy
       have HY:=Lib.hid hy
       clear hy
       go_wp2_with fail
       go_ret
       exact ⟨false,rfl,⟨fun h=>(by cases h),fun h=>absurd (h y HM.out) HY.out⟩,rfl⟩
   · obtain rfl:k=l.length:=by omega
     go_wp2_with fail
     go_ret
     exact ⟨true,rfl,⟨fun _=>(by have h:=HZ.out;rw [List.take_length] at h;exact h),fun _=>rfl⟩,rfl⟩
theorem sub_mask {f F A:Int} (h0:0≤f) (h1:f<9223372036854775808) (hF:F=0∨F=1∨F=4∨F=5∨F=255) (hA:bits .andNot .i64 f F=A) (hz:A=0):(F=0→f=0)∧(F=1→f=0∨f=1)∧(F=4→f=0∨f=4)∧(F=5→f=0∨f=1∨f=4∨f=5)∧f<256:=by
 subst hz
 have hF0:0≤F∧F<256:=by omega
 obtain ⟨n,rfl⟩:=Int.eq_ofNat_of_zero_le h0
 obtain ⟨m,rfl⟩:=Int.eq_ofNat_of_zero_le hF0.1
 have a1:(BitVec.ofInt 64 ((n:Nat):Int)).toNat=n:=by rw [BitVec.ofInt_natCast,BitVec.toNat_ofNat];exact Nat.mod_eq_of_lt (by omega)
 have a2:(BitVec.ofInt 64 ((m:Nat):Int)).toNat=m:=by rw [BitVec.ofInt_natCast,BitVec.toNat_ofNat];exact Nat.mod_eq_of_lt (by omega)
 have hA':IntKind.i64.wrap ((BitVec.ofInt 64 (n:Int) &&& ~~~ (BitVec.ofInt 64 (m:Int))).toNat:Int)=0:=hA
 generalize BitVec.ofInt 64 (n:Int)=x at *
 generalize BitVec.ofInt 64 (m:Int)=y at *
 have hx0:(x &&& ~~~ y).toNat=0:=by
   have hlt:=(x &&& ~~~ y).isLt
   generalize (x &&& ~~~ y).toNat=t at *
   have e:(2:Int) ^ 64=18446744073709551616:=by decide
   have e3:(2:Int) ^ 63=9223372036854775808:=by decide
   simp [IntKind.wrap,IntKind.bits,IntKind.signed,e,e3] at hA'
   omega
 have hxz:x &&& ~~~ y=0#64:=BitVec.eq_of_toNat_eq (by simpa using hx0)
 have hxy:x &&& y=x:=by
   apply BitVec.eq_of_getLsbD_eq
   intro i hi
   have h:=congrArg (fun b=>b.getLsbD i) hxz
   simp [hi] at h
   rw [BitVec.getLsbD_and]
   cases h1:x.getLsbD i<;>cases h2:y.getLsbD i<;>simp_all
 have hn:n &&& m=n:=by
   have h:=congrArg BitVec.toNat hxy
   rw [BitVec.toNat_and,a1,a2] at h
   exact h
 have hle:n≤m:=by rw [←hn];exact Nat.and_le_right
 have hn256:n<256:=by omega
 have k4:∀n:Fin 5,n.val &&& 4=n.val→n.val=0∨n.val=4:=by decide
 have k5:∀n:Fin 6,n.val &&& 5=n.val→n.val=0∨n.val=1∨n.val=4∨n.val=5:=by decide
 refine ⟨fun e => ?_,fun e => ?_,fun e => ?_,fun e => ?_,by omega⟩
 · omega
 · obtain rfl:m=1:=by omega
   omega
 · obtain rfl:m=4:=by omega
   have:=k4 ⟨n,by omega⟩ hn
   simp only at this
   omega
 · obtain rfl:m=5:=by omega
   have:=k5 ⟨n,by omega⟩ hn
   simp only at this
   omega
end Go.Proofs.YtfdlbjibninakaaGreatDoor

namespace Go.Proofs.YtfdlbjibninakaaGreatDoor
set_option maxRecDepth 10000
set_option maxHeartbeats 600000
open Go.RowKit
theorem rdB_nilC (w:World):RdB w (.slice none 0 0) []:=⟨none,0,rfl,Nat.le_refl _,Nat.zero_le _,fun j x h=>by simp at h⟩
theorem cln_0 {w:World} {x:Fr} {dv sv:Value} (hd:RdB w dv x.data) (hs:RdP w sv x.set) (bx:∀z∈x.data,0≤z∧z<256) (ht:x.ty=0):Calls Tryz.prog 62 #[.agg (frX x dv sv)] w (EqAny w (x=Pl.cleanF x)):=by
 obtain ⟨sa,sc,rfl,hsc,hsm⟩:=hs.shape
 obtain ⟨da,dc,rfl,-,-⟩:=id hd
 have hcl:x = { Fr.zero with ty:=x.ty,fl:=x.fl,st:=x.st,ln:=x.ln,data:=x.data }→x=Pl.cleanF x:=fun h=>by
   unfold Pl.cleanF
   rw [ht] at h ⊢
   exact h
 have HCL:=Lib.hid hcl
 have HS:=Lib.hid hs
 have HD:=Lib.hid hd
 have BX:=Lib.hid bx
 clear hs hd bx hcl
 have hE:∀w',Below w.heap.size w w'→Calls Tryz.prog 20 #[.agg #[.int .i64 0,.int .i64 x.fl,.int .u32 x.st,.int .i64 x.ln,.slice da x.data.length dc,.int .u32 x.pr,.int .u32 x.la,.int .u32 x.co,.int .u32 x.inc,.bool x.hp,.bool x.ex,.int .u32 x.dep,.int .i64 x.wt,.slice sa x.set.length sc],.agg #[.int .i64 0,.int .i64 x.fl,.int .u32 x.st,.int .i64 x.ln,.slice da x.data.length dc,.int .u32 0,.int .u32 0,.int .u32 0,.int .u32 0,.bool false,.bool false,.int .u32 0,.int .i64 0,.slice none 0 0]] w' (EqAny w' (x = { Fr.zero with ty:=x.ty,fl:=x.fl,st:=x.st,ln:=x.ln,data:=x.data })):=fun w' hb=>by have h:=equal_any x { Fr.zero with ty:=x.ty,fl:=x.fl,st:=x.st,ln:=x.ln,data:=x.data } _ (.slice da x.data.length dc) _ (.slice none 0 0) w' (HD.out.below hb) (HD.out.below hb) (HS.out.below hb) (RdP.nil _) BX.out BX.out;unfold frX frameC at h;rw [ht] at h;rw [ht];exact h
 have HE:=Lib.hid hE
 clear hE
 unfold frX frameC
 rw [ht]
 go_enter Tryz.func62,Tryz.ntmps62
 go_wp2_with (first
   | (refine wpList_store_blk rfl 29 _ _ rfl (w.heap.size+1) rfl #[.int .i64 0,.int .i64 x.fl,.int .u32 x.st,.int .i64 x.ln,.slice none 0 0,.int .u32 0,.int .u32 0,.int .u32 0,.int .u32 0,.bool false,.bool false,.int .u32 0,.int .i64 0,.slice none 0 0] _ rfl 29 (blk_at _ _ (by simp)) rfl infoFs (by simp [Value.oneCell']) ?_;intro w1 hb1 k1;
      have hF1:w1.heap[w.heap.size]? = some (.cells #[.int .i64 0,.int .i64 x.fl,.int .u32 x.st,.int .i64 x.ln,.slice da x.data.length dc,.int .u32 x.pr,.int .u32 x.la,.int .u32 x.co,.int .u32 x.inc,.bool x.hp,.bool x.ex,.int .u32 x.dep,.int .i64 x.wt,.slice sa x.set.length sc] 29 (0,0)):=k1.at (by simp) (blk_alloc (blk_new w _));
      have B1:Below w.heap.size w w1:=((((Kept.refl (· < w.heap.size) w).alloc _).alloc _).trans (k1.mono fun k h _=>by omega)).below (Nat.le_refl _);
      have e0:w1.cell? ⟨w.heap.size,0,none⟩=some (.int .i64 0):=blk_cell hF1 0;have e4:w1.cell? ⟨w.heap.size,4,none⟩=some (.slice da x.data.length dc):=blk_cell hF1 4;
      have f4:=blk_free hb1 4;have g4:w1.cell? ⟨w.heap.size+1,4,none⟩=some (.slice none 0 0):=blk_cell hb1 4)
   | (refine wpList_load_blk rfl 29 _ rfl w.heap.size rfl #[.int .i64 0,.int .i64 x.fl,.int .u32 x.st,.int .i64 x.ln,.slice da x.data.length dc,.int .u32 x.pr,.int .u32 x.la,.int .u32 x.co,.int .u32 x.inc,.bool x.hp,.bool x.ex,.int .u32 x.dep,.int .i64 x.wt,.slice sa x.set.length sc] 29 (blk_set_other hF1 (by simp) _) Tryz.underlying29 infoFs ?_)
   | (refine wpList_load_blk rfl 29 _ rfl (w.heap.size+1) rfl #[.int .i64 0,.int .i64 x.fl,.int .u32 x.st,.int .i64 x.ln,.slice da x.data.length dc,.int .u32 0,.int .u32 0,.int .u32 0,.int .u32 0,.bool false,.bool false,.int .u32 0,.int .i64 0,.slice none 0 0] 29 (blk_set hb1 4 (.slice da x.data.length dc)) Tryz.underlying29 infoFs ?_))
 refine (HE.out _ (B1.setCell (by simp) _)).mono ?_
 rintro e w3 ⟨q,rfl,hq,b3⟩
 go_wp2
 go_ret
 exact ⟨q,rfl,fun h=>HCL.out (hq h),Below.then (B1.setCell (by simp) _) (Nat.le_refl _) b3⟩
theorem cln_9 {w:World} {x:Fr} {dv sv:Value} (hd:RdB w dv x.data) (hs:RdP w sv x.set) (bx:∀z∈x.data,0≤z∧z<256) (ht:x.ty=9):Calls Tryz.prog 62 #[.agg (frX x dv sv)] w (EqAny w (x=Pl.cleanF x)):=by
 obtain ⟨sa,sc,rfl,hsc,hsm⟩:=hs.shape
 obtain ⟨da,dc,rfl,-,-⟩:=id hd
 have hcl:x = { Fr.zero with ty:=x.ty,fl:=x.fl,st:=x.st,ln:=x.ln,data:=x.data }→x=Pl.cleanF x:=fun h=>by
   unfold Pl.cleanF
   rw [ht] at h ⊢
   exact h
 have HCL:=Lib.hid hcl
 have HS:=Lib.hid hs
 have HD:=Lib.hid hd
 have BX:=Lib.hid bx
 clear hs hd bx hcl
 have hE:∀w',Below w.heap.size w w'→Calls Tryz.prog 20 #[.agg #[.int .i64 9,.int .i64 x.fl,.int .u32 x.st,.int .i64 x.ln,.slice da x.data.length dc,.int .u32 x.pr,.int .u32 x.la,.int .u32 x.co,.int .u32 x.inc,.bool x.hp,.bool x.ex,.int .u32 x.dep,.int .i64 x.wt,.slice sa x.set.length sc],.agg #[.int .i64 9,.int .i64 x.fl,.int .u32 x.st,.int .i64 x.ln,.slice da x.data.length dc,.int .u32 0,.int .u32 0,.int .u32 0,.int .u32 0,.bool false,.bool false,.int .u32 0,.int .i64 0,.slice none 0 0]] w' (EqAny w' (x = { Fr.zero with ty:=x.ty,fl:=x.fl,st:=x.st,ln:=x.ln,data:=x.data })):=fun w' hb=>by have h:=equal_any x { Fr.zero with ty:=x.ty,fl:=x.fl,st:=x.st,ln:=x.ln,data:=x.data } _ (.slice da x.data.length dc) _ (.slice none 0 0) w' (HD.out.below hb) (HD.out.below hb) (HS.out.below hb) (RdP.nil _) BX.out BX.out;unfold frX frameC at h;rw [ht] at h;rw [ht];exact h
 have HE:=Lib.hid hE
 clear hE
 unfold frX frameC
 rw [ht]
 go_enter Tryz.func62,Tryz.ntmps62
 go_wp2_with (first
   | (refine wpList_store_blk rfl 29 _ _ rfl (w.heap.size+1) rfl #[.int .i64 9,.int .i64 x.fl,.int .u32 x.st,.int .i64 x.ln,.slice none 0 0,.int .u32 0,.int .u32 0,.int .u32 0,.int .u32 0,.bool false,.bool false,.int .u32 0,.int .i64 0,.slice none 0 0] _ rfl 29 (blk_at _ _ (by simp)) rfl infoFs (by simp [Value.oneCell']) ?_;intro w1 hb1 k1;
      have hF1:w1.heap[w.heap.size]? = some (.cells #[.int .i64 9,.int .i64 x.fl,.int .u32 x.st,.int .i64 x.ln,.slice da x.data.length dc,.int .u32 x.pr,.int .u32 x.la,.int .u32 x.co,.int .u32 x.inc,.bool x.hp,.bool x.ex,.int .u32 x.dep,.int .i64 x.wt,.slice sa x.set.length sc] 29 (0,0)):=k1.at (by simp) (blk_alloc (blk_new w _));
      have B1:Below w.heap.size w w1:=((((Kept.refl (· < w.heap.size) w).alloc _).alloc _).trans (k1.mono fun k h _=>by omega)).below (Nat.le_refl _);
      have e0:w1.cell? ⟨w.heap.size,0,none⟩=some (.int .i64 9):=blk_cell hF1 0;have e4:w1.cell? ⟨w.heap.size,4,none⟩=some (.slice da x.data.length dc):=blk_cell hF1 4;
      have f4:=blk_free hb1 4;have g4:w1.cell? ⟨w.heap.size+1,4,none⟩=some (.slice none 0 0):=blk_cell hb1 4)
   | (refine wpList_load_blk rfl 29 _ rfl w.heap.size rfl #[.int .i64 9,.int .i64 x.fl,.int .u32 x.st,.int .i64 x.ln,.slice da x.data.length dc,.int .u32 x.pr,.int .u32 x.la,.int .u32 x.co,.int .u32 x.inc,.bool x.hp,.bool x.ex,.int .u32 x.dep,.int .i64 x.wt,.slice sa x.set.length sc] 29 (blk_set_other hF1 (by simp) _) Tryz.underlying29 infoFs ?_)
   | (refine wpList_load_blk rfl 29 _ rfl (w.heap.size+1) rfl #[.int .i64 9,.int .i64 x.fl,.int .u32 x.st,.int .i64 x.ln,.slice da x.data.length dc,.int .u32 0,.int .u32 0,.int .u32 0,.int .u32 0,.bool false,.bool false,.int .u32 0,.int .i64 0,.slice none 0 0] 29 (blk_set hb1 4 (.slice da x.data.length dc)) Tryz.underlying29 infoFs ?_))
 refine (HE.out _ (B1.setCell (by simp) _)).mono ?_
 rintro e w3 ⟨q,rfl,hq,b3⟩
 go_wp2
 go_ret
 exact ⟨q,rfl,fun h=>HCL.out (hq h),Below.then (B1.setCell (by simp) _) (Nat.le_refl _) b3⟩
theorem cln_6 {w:World} {x:Fr} {dv sv:Value} (hd:RdB w dv x.data) (hs:RdP w sv x.set) (bx:∀z∈x.data,0≤z∧z<256) (ht:x.ty=6):Calls Tryz.prog 62 #[.agg (frX x dv sv)] w (EqAny w (x=Pl.cleanF x)):=by
 obtain ⟨sa,sc,rfl,hsc,hsm⟩:=hs.shape
 obtain ⟨da,dc,rfl,-,-⟩:=id hd
 have hcl:x = { Fr.zero with ty:=x.ty,fl:=x.fl,st:=x.st,ln:=x.ln,data:=x.data }→x=Pl.cleanF x:=fun h=>by
   unfold Pl.cleanF
   rw [ht] at h ⊢
   exact h
 have HCL:=Lib.hid hcl
 have HS:=Lib.hid hs
 have HD:=Lib.hid hd
 have BX:=Lib.hid bx
 clear hs hd bx hcl
 have hE:∀w',Below w.heap.size w w'→Calls Tryz.prog 20 #[.agg #[.int .i64 6,.int .i64 x.fl,.int .u32 x.st,.int .i64 x.ln,.slice da x.data.length dc,.int .u32 x.pr,.int .u32 x.la,.int .u32 x.co,.int .u32 x.inc,.bool x.hp,.bool x.ex,.int .u32 x.dep,.int .i64 x.wt,.slice sa x.set.length sc],.agg #[.int .i64 6,.int .i64 x.fl,.int .u32 x.st,.int .i64 x.ln,.slice da x.data.length dc,.int .u32 0,.int .u32 0,.int .u32 0,.int .u32 0,.bool false,.bool false,.int .u32 0,.int .i64 0,.slice none 0 0]] w' (EqAny w' (x = { Fr.zero with ty:=x.ty,fl:=x.fl,st:=x.st,ln:=x.ln,data:=x.data })):=fun w' hb=>by have h:=equal_any x { Fr.zero with ty:=x.ty,fl:=x.fl,st:=x.st,ln:=x.ln,data:=x.data } _ (.slice da x.data.length dc) _ (.slice none 0 0) w' (HD.out.below hb) (HD.out.below hb) (HS.out.below hb) (RdP.nil _) BX.out BX.out;unfold frX frameC at h;rw [ht] at h;rw [ht];exact h
 have HE:=Lib.hid hE
 clear hE
 unfold frX frameC
 rw [ht]
 go_enter Tryz.func62,Tryz.ntmps62
 go_wp2_with (first
   | (refine wpList_store_blk rfl 29 _ _ rfl (w.heap.size+1) rfl #[.int .i64 6,.int .i64 x.fl,.int .u32 x.st,.int .i64 x.ln,.slice none 0 0,.int .u32 0,.int .u32 0,.int .u32 0,.int .u32 0,.bool false,.bool false,.int .u32 0,.int .i64 0,.slice none 0 0] _ rfl 29 (blk_at _ _ (by simp)) rfl infoFs (by simp [Value.oneCell']) ?_;intro w1 hb1 k1;
      have hF1:w1.heap[w.heap.size]? = some (.cells #[.int .i64 6,.int .i64 x.fl,.int .u32 x.st,.int .i64 x.ln,.slice da x.data.length dc,.int .u32 x.pr,.int .u32 x.la,.int .u32 x.co,.int .u32 x.inc,.bool x.hp,.bool x.ex,.int .u32 x.dep,.int .i64 x.wt,.slice sa x.set.length sc] 29 (0,0)):=k1.at (by simp) (blk_alloc (blk_new w _));
      have B1:Below w.heap.size w w1:=((((Kept.refl (· < w.heap.size) w).alloc _).alloc _).trans (k1.mono fun k h _=>by omega)).below (Nat.le_refl _);
      have e0:w1.cell? ⟨w.heap.size,0,none⟩=some (.int .i64 6):=blk_cell hF1 0;have e4:w1.cell? ⟨w.heap.size,4,none⟩=some (.slice da x.data.length dc):=blk_cell hF1 4;
      have f4:=blk_free hb1 4;have g4:w1.cell? ⟨w.heap.size+1,4,none⟩=some (.slice none 0 0):=blk_cell hb1 4)
   | (refine wpList_load_blk rfl 29 _ rfl w.heap.size rfl #[.int .i64 6,.int .i64 x.fl,.int .u32 x.st,.int .i64 x.ln,.slice da x.data.length dc,.int .u32 x.pr,.int .u32 x.la,.int .u32 x.co,.int .u32 x.inc,.bool x.hp,.bool x.ex,.int .u32 x.dep,.int .i64 x.wt,.slice sa x.set.length sc] 29 (blk_set_other hF1 (by simp) _) Tryz.underlying29 infoFs ?_)
   | (refine wpList_load_blk rfl 29 _ rfl (w.heap.size+1) rfl #[.int .i64 6,.int .i64 x.fl,.int .u32 x.st,.int .i64 x.ln,.slice da x.data.length dc,.int .u32 0,.int .u32 0,.int .u32 0,.int .u32 0,.bool false,.bool false,.int .u32 0,.int .i64 0,.slice none 0 0] 29 (blk_set hb1 4 (.slice da x.data.length dc)) Tryz.underlying29 infoFs ?_))
 refine (HE.out _ (B1.setCell (by simp) _)).mono ?_
 rintro e w3 ⟨q,rfl,hq,b3⟩
 go_wp2
 go_ret
 exact ⟨q,rfl,fun h=>HCL.out (hq h),Below.then (B1.setCell (by simp) _) (Nat.le_refl _) b3⟩
theorem cln_3 {w:World} {x:Fr} {dv sv:Value} (hd:RdB w dv x.data) (hs:RdP w sv x.set) (bx:∀z∈x.data,0≤z∧z<256) (ht:x.ty=3):Calls Tryz.prog 62 #[.agg (frX x dv sv)] w (EqAny w (x=Pl.cleanF x)):=by
 obtain ⟨sa,sc,rfl,hsc,hsm⟩:=hs.shape
 obtain ⟨da,dc,rfl,-,-⟩:=id hd
 have hcl:x = { Fr.zero with ty:=x.ty,fl:=x.fl,st:=x.st,ln:=x.ln,co:=x.co }→x=Pl.cleanF x:=fun h=>by
   unfold Pl.cleanF
   rw [ht] at h ⊢
   exact h
 have HCL:=Lib.hid hcl
 have HS:=Lib.hid hs
 have HD:=Lib.hid hd
 have BX:=Lib.hid bx
 clear hs hd bx hcl
 have hE:∀w',Below w.heap.size w w'→Calls Tryz.prog 20 #[.agg #[.int .i64 3,.int .i64 x.fl,.int .u32 x.st,.int .i64 x.ln,.slice da x.data.length dc,.int .u32 x.pr,.int .u32 x.la,.int .u32 x.co,.int .u32 x.inc,.bool x.hp,.bool x.ex,.int .u32 x.dep,.int .i64 x.wt,.slice sa x.set.length sc],.agg #[.int .i64 3,.int .i64 x.fl,.int .u32 x.st,.int .i64 x.ln,.slice none 0 0,.int .u32 0,.int .u32 0,.int .u32 x.co,.int .u32 0,.bool false,.bool false,.int .u32 0,.int .i64 0,.slice none 0 0]] w' (EqAny w' (x = { Fr.zero with ty:=x.ty,fl:=x.fl,st:=x.st,ln:=x.ln,co:=x.co })):=fun w' hb=>by have h:=equal_any x { Fr.zero with ty:=x.ty,fl:=x.fl,st:=x.st,ln:=x.ln,co:=x.co } _ (.slice none 0 0) _ (.slice none 0 0) w' (HD.out.below hb) (rdB_nilC _) (HS.out.below hb) (RdP.nil _) BX.out (fun z hz=>by cases hz);unfold frX frameC at h;rw [ht] at h;rw [ht];exact h
 have HE:=Lib.hid hE
 clear hE
 unfold frX frameC
 rw [ht]
 go_enter Tryz.func62,Tryz.ntmps62
 go_wp2_with (first
   | (refine wpList_store_blk rfl 29 _ _ rfl (w.heap.size+1) rfl #[.int .i64 3,.int .i64 x.fl,.int .u32 x.st,.int .i64 x.ln,.slice none 0 0,.int .u32 0,.int .u32 0,.int .u32 0,.int .u32 0,.bool false,.bool false,.int .u32 0,.int .i64 0,.slice none 0 0] _ rfl 29 (blk_at _ _ (by simp)) rfl infoFs (by simp [Value.oneCell']) ?_;intro w1 hb1 k1;
      have hF1:w1.heap[w.heap.size]? = some (.cells #[.int .i64 3,.int .i64 x.fl,.int .u32 x.st,.int .i64 x.ln,.slice da x.data.length dc,.int .u32 x.pr,.int .u32 x.la,.int .u32 x.co,.int .u32 x.inc,.bool x.hp,.bool x.ex,.int .u32 x.dep,.int .i64 x.wt,.slice sa x.set.length sc] 29 (0,0)):=k1.at (by simp) (blk_alloc (blk_new w _));
      have B1:Below w.heap.size w w1:=((((Kept.refl (· < w.heap.size) w).alloc _).alloc _).trans (k1.mono fun k h _=>by omega)).below (Nat.le_refl _);
      have e0:w1.cell? ⟨w.heap.size,0,none⟩=some (.int .i64 3):=blk_cell hF1 0;have e7:w1.cell? ⟨w.heap.size,7,none⟩=some (.int .u32 x.co):=blk_cell hF1 7;
      have f7:=blk_free hb1 7;have g7:w1.cell? ⟨w.heap.size+1,7,none⟩=some (.int .u32 0):=blk_cell hb1 7)
   | (refine wpList_load_blk rfl 29 _ rfl w.heap.size rfl #[.int .i64 3,.int .i64 x.fl,.int .u32 x.st,.int .i64 x.ln,.slice da x.data.length dc,.int .u32 x.pr,.int .u32 x.la,.int .u32 x.co,.int .u32 x.inc,.bool x.hp,.bool x.ex,.int .u32 x.dep,.int .i64 x.wt,.slice sa x.set.length sc] 29 (blk_set_other hF1 (by simp) _) Tryz.underlying29 infoFs ?_)
   | (refine wpList_load_blk rfl 29 _ rfl (w.heap.size+1) rfl #[.int .i64 3,.int .i64 x.fl,.int .u32 x.st,.int .i64 x.ln,.slice none 0 0,.int .u32 0,.int .u32 0,.int .u32 x.co,.int .u32 0,.bool false,.bool false,.int .u32 0,.int .i64 0,.slice none 0 0] 29 (blk_set hb1 7 (.int .u32 x.co)) Tryz.underlying29 infoFs ?_))
 refine (HE.out _ (B1.setCell (by simp) _)).mono ?_
 rintro e w3 ⟨q,rfl,hq,b3⟩
 go_wp2
 go_ret
 exact ⟨q,rfl,fun h=>HCL.out (hq h),Below.then (B1.setCell (by simp) _) (Nat.le_refl _) b3⟩
theorem cln_4 {w:World} {x:Fr} {dv sv:Value} (hd:RdB w dv x.data) (hs:RdP w sv x.set) (bx:∀z∈x.data,0≤z∧z<256) (ht:x.ty=4):Calls Tryz.prog 62 #[.agg (frX x dv sv)] w (EqAny w (x=Pl.cleanF x)):=by
 obtain ⟨sa,sc,rfl,hsc,hsm⟩:=hs.shape
 obtain ⟨da,dc,rfl,-,-⟩:=id hd
 have hcl:x = { Fr.zero with ty:=x.ty,fl:=x.fl,st:=x.st,ln:=x.ln,set:=x.set }→x=Pl.cleanF x:=fun h=>by
   unfold Pl.cleanF
   rw [ht] at h ⊢
   exact h
 have HCL:=Lib.hid hcl
 have HS:=Lib.hid hs
 have HD:=Lib.hid hd
 have BX:=Lib.hid bx
 clear hs hd bx hcl
 have hE:∀w',Below w.heap.size w w'→Calls Tryz.prog 20 #[.agg #[.int .i64 4,.int .i64 x.fl,.int .u32 x.st,.int .i64 x.ln,.slice da x.data.length dc,.int .u32 x.pr,.int .u32 x.la,.int .u32 x.co,.int .u32 x.inc,.bool x.hp,.bool x.ex,.int .u32 x.dep,.int .i64 x.wt,.slice sa x.set.length sc],.agg #[.int .i64 4,.int .i64 x.fl,.int .u32 x.st,.int .i64 x.ln,.slice none 0 0,.int .u32 0,.int .u32 0,.int .u32 0,.int .u32 0,.bool false,.bool false,.int .u32 0,.int .i64 0,.slice sa x.set.length sc]] w' (EqAny w' (x = { Fr.zero with ty:=x.ty,fl:=x.fl,st:=x.st,ln:=x.ln,set:=x.set })):=fun w' hb=>by have h:=equal_any x { Fr.zero with ty:=x.ty,fl:=x.fl,st:=x.st,ln:=x.ln,set:=x.set } _ (.slice none 0 0) _ (.slice sa x.set.length sc) w' (HD.out.below hb) (rdB_nilC _) (HS.out.below hb) (HS.out.below hb) BX.out (fun z hz=>by cases hz);unfold frX frameC at h;rw [ht] at h;rw [ht];exact h
 have HE:=Lib.hid hE
 clear hE
 unfold frX frameC
 rw [ht]
 go_enter Tryz.func62,Tryz.ntmps62
 go_wp2_with (first
   | (refine wpList_store_blk rfl 29 _ _ rfl (w.heap.size+1) rfl #[.int .i64 4,.int .i64 x.fl,.int .u32 x.st,.int .i64 x.ln,.slice none 0 0,.int .u32 0,.int .u32 0,.int .u32 0,.int .u32 0,.bool false,.bool false,.int .u32 0,.int .i64 0,.slice none 0 0] _ rfl 29 (blk_at _ _ (by simp)) rfl infoFs (by simp [Value.oneCell']) ?_;intro w1 hb1 k1;
      have hF1:w1.heap[w.heap.size]? = some (.cells #[.int .i64 4,.int .i64 x.fl,.int .u32 x.st,.int .i64 x.ln,.slice da x.data.length dc,.int .u32 x.pr,.int .u32 x.la,.int .u32 x.co,.int .u32 x.inc,.bool x.hp,.bool x.ex,.int .u32 x.dep,.int .i64 x.wt,.slice sa x.set.length sc] 29 (0,0)):=k1.at (by simp) (blk_alloc (blk_new w _));
      have B1:Below w.heap.size w w1:=((((Kept.refl (· < w.heap.size) w).alloc _).alloc _).trans (k1.mono fun k h _=>by omega)).below (Nat.le_refl _);
      have e0:w1.cell? ⟨w.heap.size,0,none⟩=some (.int .i64 4):=blk_cell hF1 0;have e13:w1.cell? ⟨w.heap.size,13,none⟩=some (.slice sa x.set.length sc):=blk_cell hF1 13;
      have f13:=blk_free hb1 13;have g13:w1.cell? ⟨w.heap.size+1,13,none⟩=some (.slice none 0 0):=blk_cell hb1 13)
   | (refine wpList_load_blk rfl 29 _ rfl w.heap.size rfl #[.int .i64 4,.int .i64 x.fl,.int .u32 x.st,.int .i64 x.ln,.slice da x.data.length dc,.int .u32 x.pr,.int .u32 x.la,.int .u32 x.co,.int .u32 x.inc,.bool x.hp,.bool x.ex,.int .u32 x.dep,.int .i64 x.wt,.slice sa x.set.length sc] 29 (blk_set_other hF1 (by simp) _) Tryz.underlying29 infoFs ?_)
   | (refine wpList_load_blk rfl 29 _ rfl (w.heap.size+1) rfl #[.int .i64 4,.int .i64 x.fl,.int .u32 x.st,.int .i64 x.ln,.slice none 0 0,.int .u32 0,.int .u32 0,.int .u32 0,.int .u32 0,.bool false,.bool false,.int .u32 0,.int .i64 0,.slice sa x.set.length sc] 29 (blk_set hb1 13 (.slice sa x.set.length sc)) Tryz.underlying29 infoFs ?_))
 refine (HE.out _ (B1.setCell (by simp) _)).mono ?_
 rintro e w3 ⟨q,rfl,hq,b3⟩
 go_wp2
 go_ret
 exact ⟨q,rfl,fun h=>HCL.out (hq h),Below.then (B1.setCell (by simp) _) (Nat.le_refl _) b3⟩
theorem cln_8 {w:World} {x:Fr} {dv sv:Value} (hd:RdB w dv x.data) (hs:RdP w sv x.set) (bx:∀z∈x.data,0≤z∧z<256) (ht:x.ty=8):Calls Tryz.prog 62 #[.agg (frX x dv sv)] w (EqAny w (x=Pl.cleanF x)):=by
 obtain ⟨sa,sc,rfl,hsc,hsm⟩:=hs.shape
 obtain ⟨da,dc,rfl,-,-⟩:=id hd
 have hcl:x = { Fr.zero with ty:=x.ty,fl:=x.fl,st:=x.st,ln:=x.ln,inc:=x.inc }→x=Pl.cleanF x:=fun h=>by
   unfold Pl.cleanF
   rw [ht] at h ⊢
   exact h
 have HCL:=Lib.hid hcl
 have HS:=Lib.hid hs
 have HD:=Lib.hid hd
 have BX:=Lib.hid bx
 clear hs hd bx hcl
 have hE:∀w',Below w.heap.size w w'→Calls Tryz.prog 20 #[.agg #[.int .i64 8,.int .i64 x.fl,.int .u32 x.st,.int .i64 x.ln,.slice da x.data.length dc,.int .u32 x.pr,.int .u32 x.la,.int .u32 x.co,.int .u32 x.inc,.bool x.hp,.bool x.ex,.int .u32 x.dep,.int .i64 x.wt,.slice sa x.set.length sc],.agg #[.int .i64 8,.int .i64 x.fl,.int .u32 x.st,.int .i64 x.ln,.slice none 0 0,.int .u32 0,.int .u32 0,.int .u32 0,.int .u32 x.inc,.bool false,.bool false,.int .u32 0,.int .i64 0,.slice none 0 0]] w' (EqAny w' (x = { Fr.zero with ty:=x.ty,fl:=x.fl,st:=x.st,ln:=x.ln,inc:=x.inc })):=fun w' hb=>by have h:=equal_any x { Fr.zero with ty:=x.ty,fl:=x.fl,st:=x.st,ln:=x.ln,inc:=x.inc } _ (.slice none 0 0) _ (.slice none 0 0) w' (HD.out.below hb) (rdB_nilC _) (HS.out.below hb) (RdP.nil _) BX.out (fun z hz=>by cases hz);unfold frX frameC at h;rw [ht] at h;rw [ht];exact h
 have HE:=Lib.hid hE
 clear hE
 unfold frX frameC
 rw [ht]
 go_enter Tryz.func62,Tryz.ntmps62
 go_wp2_with (first
   | (refine wpList_store_blk rfl 29 _ _ rfl (w.heap.size+1) rfl #[.int .i64 8,.int .i64 x.fl,.int .u32 x.st,.int .i64 x.ln,.slice none 0 0,.int .u32 0,.int .u32 0,.int .u32 0,.int .u32 0,.bool false,.bool false,.int .u32 0,.int .i64 0,.slice none 0 0] _ rfl 29 (blk_at _ _ (by simp)) rfl infoFs (by simp [Value.oneCell']) ?_;intro w1 hb1 k1;
      have hF1:w1.heap[w.heap.size]? = some (.cells #[.int .i64 8,.int .i64 x.fl,.int .u32 x.st,.int .i64 x.ln,.slice da x.data.length dc,.int .u32 x.pr,.int .u32 x.la,.int .u32 x.co,.int .u32 x.inc,.bool x.hp,.bool x.ex,.int .u32 x.dep,.int .i64 x.wt,.slice sa x.set.length sc] 29 (0,0)):=k1.at (by simp) (blk_alloc (blk_new w _));
      have B1:Below w.heap.size w w1:=((((Kept.refl (· < w.heap.size) w).alloc _).alloc _).trans (k1.mono fun k h _=>by omega)).below (Nat.le_refl _);
      have e0:w1.cell? ⟨w.heap.size,0,none⟩=some (.int .i64 8):=blk_cell hF1 0;have e8:w1.cell? ⟨w.heap.size,8,none⟩=some (.int .u32 x.inc):=blk_cell hF1 8;
      have f8:=blk_free hb1 8;have g8:w1.cell? ⟨w.heap.size+1,8,none⟩=some (.int .u32 0):=blk_cell hb1 8)
   | (refine wpList_load_blk rfl 29 _ rfl w.heap.size rfl #[.int .i64 8,.int .i64 x.fl,.int .u32 x.st,.int .i64 x.ln,.slice da x.data.length dc,.int .u32 x.pr,.int .u32 x.la,.int .u32 x.co,.int .u32 x.inc,.bool x.hp,.bool x.ex,.int .u32 x.dep,.int .i64 x.wt,.slice sa x.set.length sc] 29 (blk_set_other hF1 (by simp) _) Tryz.underlying29 infoFs ?_)
   | (refine wpList_load_blk rfl 29 _ rfl (w.heap.size+1) rfl #[.int .i64 8,.int .i64 x.fl,.int .u32 x.st,.int .i64 x.ln,.slice none 0 0,.int .u32 0,.int .u32 0,.int .u32 0,.int .u32 x.inc,.bool false,.bool false,.int .u32 0,.int .i64 0,.slice none 0 0] 29 (blk_set hb1 8 (.int .u32 x.inc)) Tryz.underlying29 infoFs ?_))
 refine (HE.out _ (B1.setCell (by simp) _)).mono ?_
 rintro e w3 ⟨q,rfl,hq,b3⟩
 go_wp2
 go_ret
 exact ⟨q,rfl,fun h=>HCL.out (hq h),Below.then (B1.setCell (by simp) _) (Nat.le_refl _) b3⟩
theorem cln_2 {w:World} {x:Fr} {dv sv:Value} (hd:RdB w dv x.data) (hs:RdP w sv x.set) (bx:∀z∈x.data,0≤z∧z<256) (ht:x.ty=2):Calls Tryz.prog 62 #[.agg (frX x dv sv)] w (EqAny w (x=Pl.cleanF x)):=by
 obtain ⟨sa,sc,rfl,hsc,hsm⟩:=hs.shape
 obtain ⟨da,dc,rfl,-,-⟩:=id hd
 have hcl:x = { Fr.zero with ty:=x.ty,fl:=x.fl,st:=x.st,ln:=x.ln,ex:=x.ex,dep:=x.dep,wt:=x.wt }→x=Pl.cleanF x:=fun h=>by
   unfold Pl.cleanF
   rw [ht] at h ⊢
   exact h
 have HCL:=Lib.hid hcl
 have HS:=Lib.hid hs
 have HD:=Lib.hid hd
 have BX:=Lib.hid bx
 clear hs hd bx hcl
 have hE:∀w',Below w.heap.size w w'→Calls Tryz.prog 20 #[.agg #[.int .i64 2,.int .i64 x.fl,.int .u32 x.st,.int .i64 x.ln,.slice da x.data.length dc,.int .u32 x.pr,.int .u32 x.la,.int .u32 x.co,.int .u32 x.inc,.bool x.hp,.bool x.ex,.int .u32 x.dep,.int .i64 x.wt,.slice sa x.set.length sc],.agg #[.int .i64 2,.int .i64 x.fl,.int .u32 x.st,.int .i64 x.ln,.slice none 0 0,.int .u32 0,.int .u32 0,.int .u32 0,.int .u32 0,.bool false,.bool x.ex,.int .u32 x.dep,.int .i64 x.wt,.slice none 0 0]] w' (EqAny w' (x = { Fr.zero with ty:=x.ty,fl:=x.fl,st:=x.st,ln:=x.ln,ex:=x.ex,dep:=x.dep,wt:=x.wt })):=fun w' hb=>by have h:=equal_any x { Fr.zero with ty:=x.ty,fl:=x.fl,st:=x.st,ln:=x.ln,ex:=x.ex,dep:=x.dep,wt:=x.wt } _ (.slice none 0 0) _ (.slice none 0 0) w' (HD.out.below hb) (rdB_nilC _) (HS.out.below hb) (RdP.nil _) BX.out (fun z hz=>by cases hz);unfold frX frameC at h;rw [ht] at h;rw [ht];exact h
 have HE:=Lib.hid hE
 clear hE
 unfold frX frameC
 rw [ht]
 go_enter Tryz.func62,Tryz.ntmps62
 go_wp2_with (first
   | (refine wpList_store_blk rfl 29 _ _ rfl (w.heap.size+1) rfl #[.int .i64 2,.int .i64 x.fl,.int .u32 x.st,.int .i64 x.ln,.slice none 0 0,.int .u32 0,.int .u32 0,.int .u32 0,.int .u32 0,.bool false,.bool false,.int .u32 0,.int .i64 0,.slice none 0 0] _ rfl 29 (blk_at _ _ (by simp)) rfl infoFs (by simp [Value.oneCell']) ?_;intro w1 hb1 k1;
      have hF1:w1.heap[w.heap.size]? = some (.cells #[.int .i64 2,.int .i64 x.fl,.int .u32 x.st,.int .i64 x.ln,.slice da x.data.length dc,.int .u32 x.pr,.int .u32 x.la,.int .u32 x.co,.int .u32 x.inc,.bool x.hp,.bool x.ex,.int .u32 x.dep,.int .i64 x.wt,.slice sa x.set.length sc] 29 (0,0)):=k1.at (by simp) (blk_alloc (blk_new w _));
      have B1:Below w.heap.size w w1:=((((Kept.refl (· < w.heap.size) w).alloc _).alloc _).trans (k1.mono fun k h _=>by omega)).below (Nat.le_refl _);
      have e0:w1.cell? ⟨w.heap.size,0,none⟩=some (.int .i64 2):=blk_cell hF1 0;have e10:w1.cell? ⟨w.heap.size,10,none⟩=some (.bool x.ex):=blk_cell hF1 10;have e11:w1.cell? ⟨w.heap.size,11,none⟩=some (.int .u32 x.dep):=blk_cell hF1 11;have e12:w1.cell? ⟨w.heap.size,12,none⟩=some (.int .i64 x.wt):=blk_cell hF1 12;
      have f10:=blk_free hb1 10;have g10:w1.cell? ⟨w.heap.size+1,10,none⟩=some (.bool false):=blk_cell hb1 10;have f11:=blk_free hb1 11;have g11:w1.cell? ⟨w.heap.size+1,11,none⟩=some (.int .u32 0):=blk_cell hb1 11;have f12:=blk_free hb1 12;have g12:w1.cell? ⟨w.heap.size+1,12,none⟩=some (.int .i64 0):=blk_cell hb1 12))
 go_region_held3 (fun w'=>w'.cell? ⟨w.heap.size,10,none⟩=some (.bool x.ex)∧w'.cell? ⟨w.heap.size,11,none⟩=some (.int .u32 x.dep)∧w'.cell? ⟨w.heap.size,12,none⟩=some (.int .i64 x.wt)) (go_keep) (first|fail)
 go_wp2_with (first
   | (refine wpList_load_blk rfl 29 _ rfl w.heap.size rfl #[.int .i64 2,.int .i64 x.fl,.int .u32 x.st,.int .i64 x.ln,.slice da x.data.length dc,.int .u32 x.pr,.int .u32 x.la,.int .u32 x.co,.int .u32 x.inc,.bool x.hp,.bool x.ex,.int .u32 x.dep,.int .i64 x.wt,.slice sa x.set.length sc] 29 (blk_set_other (blk_set_other (blk_set_other hF1 (by simp) _) (by simp) _) (by simp) _) Tryz.underlying29 infoFs ?_)
   | (refine wpList_load_blk rfl 29 _ rfl (w.heap.size+1) rfl #[.int .i64 2,.int .i64 x.fl,.int .u32 x.st,.int .i64 x.ln,.slice none 0 0,.int .u32 0,.int .u32 0,.int .u32 0,.int .u32 0,.bool false,.bool x.ex,.int .u32 x.dep,.int .i64 x.wt,.slice none 0 0] 29 (blk_set (blk_set (blk_set hb1 10 (.bool x.ex)) 11 (.int .u32 x.dep)) 12 (.int .i64 x.wt)) Tryz.underlying29 infoFs ?_))
 refine (HE.out _ ((((B1.setCell (by simp) _).setCell (by simp) _).setCell (by simp) _).drew)).mono ?_
 rintro e w3 ⟨q,rfl,hq,b3⟩
 go_wp2
 go_ret
 exact ⟨q,rfl,fun h=>HCL.out (hq h),Below.then ((((B1.setCell (by simp) _).setCell (by simp) _).setCell (by simp) _).drew) (Nat.le_refl _) b3⟩
theorem cln_5 {w:World} {x:Fr} {dv sv:Value} (hd:RdB w dv x.data) (hs:RdP w sv x.set) (bx:∀z∈x.data,0≤z∧z<256) (ht:x.ty=5):Calls Tryz.prog 62 #[.agg (frX x dv sv)] w (EqAny w (x=Pl.cleanF x)):=by
 obtain ⟨sa,sc,rfl,hsc,hsm⟩:=hs.shape
 obtain ⟨da,dc,rfl,-,-⟩:=id hd
 have hcl:x = { Fr.zero with ty:=x.ty,fl:=x.fl,st:=x.st,ln:=x.ln,data:=x.data,pr:=x.pr }→x=Pl.cleanF x:=fun h=>by
   unfold Pl.cleanF
   rw [ht] at h ⊢
   exact h
 have HCL:=Lib.hid hcl
 have HS:=Lib.hid hs
 have HD:=Lib.hid hd
 have BX:=Lib.hid bx
 clear hs hd bx hcl
 have hE:∀w',Below w.heap.size w w'→Calls Tryz.prog 20 #[.agg #[.int .i64 5,.int .i64 x.fl,.int .u32 x.st,.int .i64 x.ln,.slice da x.data.length dc,.int .u32 x.pr,.int .u32 x.la,.int .u32 x.co,.int .u32 x.inc,.bool x.hp,.bool x.ex,.int .u32 x.dep,.int .i64 x.wt,.slice sa x.set.length sc],.agg #[.int .i64 5,.int .i64 x.fl,.int .u32 x.st,.int .i64 x.ln,.slice da x.data.length dc,.int .u32 x.pr,.int .u32 0,.int .u32 0,.int .u32 0,.bool false,.bool false,.int .u32 0,.int .i64 0,.slice none 0 0]] w' (EqAny w' (x = { Fr.zero with ty:=x.ty,fl:=x.fl,st:=x.st,ln:=x.ln,data:=x.data,pr:=x.pr })):=fun w' hb=>by have h:=equal_any x { Fr.zero with ty:=x.ty,fl:=x.fl,st:=x.st,ln:=x.ln,data:=x.data,pr:=x.pr } _ (.slice da x.data.length dc) _ (.slice none 0 0) w' (HD.out.below hb) (HD.out.below hb) (HS.out.below hb) (RdP.nil _) BX.out BX.out;unfold frX frameC at h;rw [ht] at h;rw [ht];exact h
 have HE:=Lib.hid hE
 clear hE
 unfold frX frameC
 rw [ht]
 go_enter Tryz.func62,Tryz.ntmps62
 go_wp2_with (first
   | (refine wpList_store_blk rfl 29 _ _ rfl (w.heap.size+1) rfl #[.int .i64 5,.int .i64 x.fl,.int .u32 x.st,.int .i64 x.ln,.slice none 0 0,.int .u32 0,.int .u32 0,.int .u32 0,.int .u32 0,.bool false,.bool false,.int .u32 0,.int .i64 0,.slice none 0 0] _ rfl 29 (blk_at _ _ (by simp)) rfl infoFs (by simp [Value.oneCell']) ?_;intro w1 hb1 k1;
      have hF1:w1.heap[w.heap.size]? = some (.cells #[.int .i64 5,.int .i64 x.fl,.int .u32 x.st,.int .i64 x.ln,.slice da x.data.length dc,.int .u32 x.pr,.int .u32 x.la,.int .u32 x.co,.int .u32 x.inc,.bool x.hp,.bool x.ex,.int .u32 x.dep,.int .i64 x.wt,.slice sa x.set.length sc] 29 (0,0)):=k1.at (by simp) (blk_alloc (blk_new w _));
      have B1:Below w.heap.size w w1:=((((Kept.refl (· < w.heap.size) w).alloc _).alloc _).trans (k1.mono fun k h _=>by omega)).below (Nat.le_refl _);
      have e0:w1.cell? ⟨w.heap.size,0,none⟩=some (.int .i64 5):=blk_cell hF1 0;have e4:w1.cell? ⟨w.heap.size,4,none⟩=some (.slice da x.data.length dc):=blk_cell hF1 4;have e5:w1.cell? ⟨w.heap.size,5,none⟩=some (.int .u32 x.pr):=blk_cell hF1 5;
      have f4:=blk_free hb1 4;have g4:w1.cell? ⟨w.heap.size+1,4,none⟩=some (.slice none 0 0):=blk_cell hb1 4;have f5:=blk_free hb1 5;have g5:w1.cell? ⟨w.heap.size+1,5,none⟩=some (.int .u32 0):=blk_cell hb1 5))
 go_region_held3 (fun w'=>w'.cell? ⟨w.heap.size,4,none⟩=some (.slice da x.data.length dc)∧w'.cell? ⟨w.heap.size,5,none⟩=some (.int .u32 x.pr)) (go_keep) (first|fail)
 go_wp2_with (first
   | (refine wpList_load_blk rfl 29 _ rfl w.heap.size rfl #[.int .i64 5,.int .i64 x.fl,.int .u32 x.st,.int .i64 x.ln,.slice da x.data.length dc,.int .u32 x.pr,.int .u32 x.la,.int .u32 x.co,.int .u32 x.inc,.bool x.hp,.bool x.ex,.int .u32 x.dep,.int .i64 x.wt,.slice sa x.set.length sc] 29 (blk_set_other (blk_set_other hF1 (by simp) _) (by simp) _) Tryz.underlying29 infoFs ?_)
   | (refine wpList_load_blk rfl 29 _ rfl (w.heap.size+1) rfl #[.int .i64 5,.int .i64 x.fl,.int .u32 x.st,.int .i64 x.ln,.slice da x.data.length dc,.int .u32 x.pr,.int .u32 0,.int .u32 0,.int .u32 0,.bool false,.bool false,.int .u32 0,.int .i64 0,.slice none 0 0] 29 (blk_set (blk_set hb1 4 (.slice da x.data.length dc)) 5 (.int .u32 x.pr)) Tryz.underlying29 infoFs ?_))
 refine (HE.out _ (((B1.setCell (by simp) _).setCell (by simp) _).drew)).mono ?_
 rintro e w3 ⟨q,rfl,hq,b3⟩
 go_wp2
 go_ret
 exact ⟨q,rfl,fun h=>HCL.out (hq h),Below.then (((B1.setCell (by simp) _).setCell (by simp) _).drew) (Nat.le_refl _) b3⟩
theorem cln_7 {w:World} {x:Fr} {dv sv:Value} (hd:RdB w dv x.data) (hs:RdP w sv x.set) (bx:∀z∈x.data,0≤z∧z<256) (ht:x.ty=7):Calls Tryz.prog 62 #[.agg (frX x dv sv)] w (EqAny w (x=Pl.cleanF x)):=by
 obtain ⟨sa,sc,rfl,hsc,hsm⟩:=hs.shape
 obtain ⟨da,dc,rfl,-,-⟩:=id hd
 have hcl:x = { Fr.zero with ty:=x.ty,fl:=x.fl,st:=x.st,ln:=x.ln,la:=x.la,co:=x.co,data:=x.data }→x=Pl.cleanF x:=fun h=>by
   unfold Pl.cleanF
   rw [ht] at h ⊢
   exact h
 have HCL:=Lib.hid hcl
 have HS:=Lib.hid hs
 have HD:=Lib.hid hd
 have BX:=Lib.hid bx
 clear hs hd bx hcl
 have hE:∀w',Below w.heap.size w w'→Calls Tryz.prog 20 #[.agg #[.int .i64 7,.int .i64 x.fl,.int .u32 x.st,.int .i64 x.ln,.slice da x.data.length dc,.int .u32 x.pr,.int .u32 x.la,.int .u32 x.co,.int .u32 x.inc,.bool x.hp,.bool x.ex,.int .u32 x.dep,.int .i64 x.wt,.slice sa x.set.length sc],.agg #[.int .i64 7,.int .i64 x.fl,.int .u32 x.st,.int .i64 x.ln,.slice da x.data.length dc,.int .u32 0,.int .u32 x.la,.int .u32 x.co,.int .u32 0,.bool false,.bool false,.int .u32 0,.int .i64 0,.slice none 0 0]] w' (EqAny w' (x = { Fr.zero with ty:=x.ty,fl:=x.fl,st:=x.st,ln:=x.ln,la:=x.la,co:=x.co,data:=x.data })):=fun w' hb=>by have h:=equal_any x { Fr.zero with ty:=x.ty,fl:=x.fl,st:=x.st,ln:=x.ln,la:=x.la,co:=x.co,data:=x.data } _ (.slice da x.data.length dc) _ (.slice none 0 0) w' (HD.out.below hb) (HD.out.below hb) (HS.out.below hb) (RdP.nil _) BX.out BX.out;unfold frX frameC at h;rw [ht] at h;rw [ht];exact h
 have HE:=Lib.hid hE
 clear hE
 unfold frX frameC
 rw [ht]
 go_enter Tryz.func62,Tryz.ntmps62
 go_wp2_with (first
   | (refine wpList_store_blk rfl 29 _ _ rfl (w.heap.size+1) rfl #[.int .i64 7,.int .i64 x.fl,.int .u32 x.st,.int .i64 x.ln,.slice none 0 0,.int .u32 0,.int .u32 0,.int .u32 0,.int .u32 0,.bool false,.bool false,.int .u32 0,.int .i64 0,.slice none 0 0] _ rfl 29 (blk_at _ _ (by simp)) rfl infoFs (by simp [Value.oneCell']) ?_;intro w1 hb1 k1;
      have hF1:w1.heap[w.heap.size]? = some (.cells #[.int .i64 7,.int .i64 x.fl,.int .u32 x.st,.int .i64 x.ln,.slice da x.data.length dc,.int .u32 x.pr,.int .u32 x.la,.int .u32 x.co,.int .u32 x.inc,.bool x.hp,.bool x.ex,.int .u32 x.dep,.int .i64 x.wt,.slice sa x.set.length sc] 29 (0,0)):=k1.at (by simp) (blk_alloc (blk_new w _));
      have B1:Below w.heap.size w w1:=((((Kept.refl (· < w.heap.size) w).alloc _).alloc _).trans (k1.mono fun k h _=>by omega)).below (Nat.le_refl _);
      have e0:w1.cell? ⟨w.heap.size,0,none⟩=some (.int .i64 7):=blk_cell hF1 0;have e4:w1.cell? ⟨w.heap.size,4,none⟩=some (.slice da x.data.length dc):=blk_cell hF1 4;have e6:w1.cell? ⟨w.heap.size,6,none⟩=some (.int .u32 x.la):=blk_cell hF1 6;have e7:w1.cell? ⟨w.heap.size,7,none⟩=some (.int .u32 x.co):=blk_cell hF1 7;
      have f6:=blk_free hb1 6;have g6:w1.cell? ⟨w.heap.size+1,6,none⟩=some (.int .u32 0):=blk_cell hb1 6;have f7:=blk_free hb1 7;have g7:w1.cell? ⟨w.heap.size+1,7,none⟩=some (.int .u32 0):=blk_cell hb1 7;have f4:=blk_free hb1 4;have g4:w1.cell? ⟨w.heap.size+1,4,none⟩=some (.slice none 0 0):=blk_cell hb1 4))
 go_region_held3 (fun w'=>w'.cell? ⟨w.heap.size,6,none⟩=some (.int .u32 x.la)∧w'.cell? ⟨w.heap.size,7,none⟩=some (.int .u32 x.co)∧w'.cell? ⟨w.heap.size,4,none⟩=some (.slice da x.data.length dc)) (go_keep) (first|fail)
 go_wp2_with (first
   | (refine wpList_load_blk rfl 29 _ rfl w.heap.size rfl #[.int .i64 7,.int .i64 x.fl,.int .u32 x.st,.int .i64 x.ln,.slice da x.data.length dc,.int .u32 x.pr,.int .u32 x.la,.int .u32 x.co,.int .u32 x.inc,.bool x.hp,.bool x.ex,.int .u32 x.dep,.int .i64 x.wt,.slice sa x.set.length sc] 29 (blk_set_other (blk_set_other (blk_set_other hF1 (by simp) _) (by simp) _) (by simp) _) Tryz.underlying29 infoFs ?_)
   | (refine wpList_load_blk rfl 29 _ rfl (w.heap.size+1) rfl #[.int .i64 7,.int .i64 x.fl,.int .u32 x.st,.int .i64 x.ln,.slice da x.data.length dc,.int .u32 0,.int .u32 x.la,.int .u32 x.co,.int .u32 0,.bool false,.bool false,.int .u32 0,.int .i64 0,.slice none 0 0] 29 (blk_set (blk_set (blk_set hb1 6 (.int .u32 x.la)) 7 (.int .u32 x.co)) 4 (.slice da x.data.length dc)) Tryz.underlying29 infoFs ?_))
 refine (HE.out _ ((((B1.setCell (by simp) _).setCell (by simp) _).setCell (by simp) _).drew)).mono ?_
 rintro e w3 ⟨q,rfl,hq,b3⟩
 go_wp2
 go_ret
 exact ⟨q,rfl,fun h=>HCL.out (hq h),Below.then ((((B1.setCell (by simp) _).setCell (by simp) _).setCell (by simp) _).drew) (Nat.le_refl _) b3⟩
theorem cln_16 {w:World} {x:Fr} {dv sv:Value} (hd:RdB w dv x.data) (hs:RdP w sv x.set) (bx:∀z∈x.data,0≤z∧z<256) (ht:x.ty=16):Calls Tryz.prog 62 #[.agg (frX x dv sv)] w (EqAny w (x=Pl.cleanF x)):=by
 obtain ⟨sa,sc,rfl,hsc,hsm⟩:=hs.shape
 obtain ⟨da,dc,rfl,-,-⟩:=id hd
 have hcl:x = { Fr.zero with ty:=x.ty,fl:=x.fl,st:=x.st,ln:=x.ln,pr:=x.pr,data:=x.data }→x=Pl.cleanF x:=fun h=>by
   unfold Pl.cleanF
   rw [ht] at h ⊢
   exact h
 have HCL:=Lib.hid hcl
 have HS:=Lib.hid hs
 have HD:=Lib.hid hd
 have BX:=Lib.hid bx
 clear hs hd bx hcl
 have hE:∀w',Below w.heap.size w w'→Calls Tryz.prog 20 #[.agg #[.int .i64 16,.int .i64 x.fl,.int .u32 x.st,.int .i64 x.ln,.slice da x.data.length dc,.int .u32 x.pr,.int .u32 x.la,.int .u32 x.co,.int .u32 x.inc,.bool x.hp,.bool x.ex,.int .u32 x.dep,.int .i64 x.wt,.slice sa x.set.length sc],.agg #[.int .i64 16,.int .i64 x.fl,.int .u32 x.st,.int .i64 x.ln,.slice da x.data.length dc,.int .u32 x.pr,.int .u32 0,.int .u32 0,.int .u32 0,.bool false,.bool false,.int .u32 0,.int .i64 0,.slice none 0 0]] w' (EqAny w' (x = { Fr.zero with ty:=x.ty,fl:=x.fl,st:=x.st,ln:=x.ln,pr:=x.pr,data:=x.data })):=fun w' hb=>by have h:=equal_any x { Fr.zero with ty:=x.ty,fl:=x.fl,st:=x.st,ln:=x.ln,pr:=x.pr,data:=x.data } _ (.slice da x.data.length dc) _ (.slice none 0 0) w' (HD.out.below hb) (HD.out.below hb) (HS.out.below hb) (RdP.nil _) BX.out BX.out;unfold frX frameC at h;rw [ht] at h;rw [ht];exact h
 have HE:=Lib.hid hE
 clear hE
 unfold frX frameC
 rw [ht]
 go_enter Tryz.func62,Tryz.ntmps62
 go_wp2_with (first
   | (refine wpList_store_blk rfl 29 _ _ rfl (w.heap.size+1) rfl #[.int .i64 16,.int .i64 x.fl,.int .u32 x.st,.int .i64 x.ln,.slice none 0 0,.int .u32 0,.int .u32 0,.int .u32 0,.int .u32 0,.bool false,.bool false,.int .u32 0,.int .i64 0,.slice none 0 0] _ rfl 29 (blk_at _ _ (by simp)) rfl infoFs (by simp [Value.oneCell']) ?_;intro w1 hb1 k1;
      have hF1:w1.heap[w.heap.size]? = some (.cells #[.int .i64 16,.int .i64 x.fl,.int .u32 x.st,.int .i64 x.ln,.slice da x.data.length dc,.int .u32 x.pr,.int .u32 x.la,.int .u32 x.co,.int .u32 x.inc,.bool x.hp,.bool x.ex,.int .u32 x.dep,.int .i64 x.wt,.slice sa x.set.length sc] 29 (0,0)):=k1.at (by simp) (blk_alloc (blk_new w _));
      have B1:Below w.heap.size w w1:=((((Kept.refl (· < w.heap.size) w).alloc _).alloc _).trans (k1.mono fun k h _=>by omega)).below (Nat.le_refl _);
      have e0:w1.cell? ⟨w.heap.size,0,none⟩=some (.int .i64 16):=blk_cell hF1 0;have e4:w1.cell? ⟨w.heap.size,4,none⟩=some (.slice da x.data.length dc):=blk_cell hF1 4;have e5:w1.cell? ⟨w.heap.size,5,none⟩=some (.int .u32 x.pr):=blk_cell hF1 5;
      have f5:=blk_free hb1 5;have g5:w1.cell? ⟨w.heap.size+1,5,none⟩=some (.int .u32 0):=blk_cell hb1 5;have f4:=blk_free hb1 4;have g4:w1.cell? ⟨w.heap.size+1,4,none⟩=some (.slice none 0 0):=blk_cell hb1 4))
 go_region_held3 (fun w'=>w'.cell? ⟨w.heap.size,5,none⟩=some (.int .u32 x.pr)∧w'.cell? ⟨w.heap.size,4,none⟩=some (.slice da x.data.length dc)) (go_keep) (first|fail)
 go_wp2_with (first
   | (refine wpList_load_blk rfl 29 _ rfl w.heap.size rfl #[.int .i64 16,.int .i64 x.fl,.int .u32 x.st,.int .i64 x.ln,.slice da x.data.length dc,.int .u32 x.pr,.int .u32 x.la,.int .u32 x.co,.int .u32 x.inc,.bool x.hp,.bool x.ex,.int .u32 x.dep,.int .i64 x.wt,.slice sa x.set.length sc] 29 (blk_set_other (blk_set_other hF1 (by simp) _) (by simp) _) Tryz.underlying29 infoFs ?_)
   | (refine wpList_load_blk rfl 29 _ rfl (w.heap.size+1) rfl #[.int .i64 16,.int .i64 x.fl,.int .u32 x.st,.int .i64 x.ln,.slice da x.data.length dc,.int .u32 x.pr,.int .u32 0,.int .u32 0,.int .u32 0,.bool false,.bool false,.int .u32 0,.int .i64 0,.slice none 0 0] 29 (blk_set (blk_set hb1 5 (.int .u32 x.pr)) 4 (.slice da x.data.length dc)) Tryz.underlying29 infoFs ?_))
 refine (HE.out _ (((B1.setCell (by simp) _).setCell (by simp) _).drew)).mono ?_
 rintro e w3 ⟨q,rfl,hq,b3⟩
 go_wp2
 go_ret
 exact ⟨q,rfl,fun h=>HCL.out (hq h),Below.then (((B1.setCell (by simp) _).setCell (by simp) _).drew) (Nat.le_refl _) b3⟩
theorem cln_1f {w:World} {x:Fr} {dv sv:Value} (hd:RdB w dv x.data) (hs:RdP w sv x.set) (bx:∀z∈x.data,0≤z∧z<256) (ht:x.ty=1) (hh:x.hp=false):Calls Tryz.prog 62 #[.agg (frX x dv sv)] w (EqAny w (x=Pl.cleanF x)):=by
 obtain ⟨sa,sc,rfl,hsc,hsm⟩:=hs.shape
 obtain ⟨da,dc,rfl,-,-⟩:=id hd
 have hcl:x = { Fr.zero with ty:=x.ty,fl:=x.fl,st:=x.st,ln:=x.ln,data:=x.data }→x=Pl.cleanF x:=fun h=>by
   unfold Pl.cleanF
   rw [ht] at h ⊢
   rw [hh]
   exact h
 have HCL:=Lib.hid hcl
 have HS:=Lib.hid hs
 have HD:=Lib.hid hd
 have BX:=Lib.hid bx
 clear hs hd bx hcl
 have hE:∀w',Below w.heap.size w w'→Calls Tryz.prog 20 #[.agg #[.int .i64 1,.int .i64 x.fl,.int .u32 x.st,.int .i64 x.ln,.slice da x.data.length dc,.int .u32 x.pr,.int .u32 x.la,.int .u32 x.co,.int .u32 x.inc,.bool false,.bool x.ex,.int .u32 x.dep,.int .i64 x.wt,.slice sa x.set.length sc],.agg #[.int .i64 1,.int .i64 x.fl,.int .u32 x.st,.int .i64 x.ln,.slice da x.data.length dc,.int .u32 0,.int .u32 0,.int .u32 0,.int .u32 0,.bool false,.bool false,.int .u32 0,.int .i64 0,.slice none 0 0]] w' (EqAny w' (x = { Fr.zero with ty:=x.ty,fl:=x.fl,st:=x.st,ln:=x.ln,data:=x.data })):=fun w' hb=>by have h:=equal_any x { Fr.zero with ty:=x.ty,fl:=x.fl,st:=x.st,ln:=x.ln,data:=x.data } _ (.slice da x.data.length dc) _ (.slice none 0 0) w' (HD.out.below hb) (HD.out.below hb) (HS.out.below hb) (RdP.nil _) BX.out BX.out;unfold frX frameC at h;rw [ht,hh] at h;rw [ht];exact h
 have HE:=Lib.hid hE
 clear hE
 unfold frX frameC
 rw [ht,hh]
 go_enter Tryz.func62,Tryz.ntmps62
 go_wp2_with (first
   | (refine wpList_store_blk rfl 29 _ _ rfl (w.heap.size+1) rfl #[.int .i64 1,.int .i64 x.fl,.int .u32 x.st,.int .i64 x.ln,.slice none 0 0,.int .u32 0,.int .u32 0,.int .u32 0,.int .u32 0,.bool false,.bool false,.int .u32 0,.int .i64 0,.slice none 0 0] _ rfl 29 (blk_at _ _ (by simp)) rfl infoFs (by simp [Value.oneCell']) ?_;intro w1 hb1 k1;
      have hF1:w1.heap[w.heap.size]? = some (.cells #[.int .i64 1,.int .i64 x.fl,.int .u32 x.st,.int .i64 x.ln,.slice da x.data.length dc,.int .u32 x.pr,.int .u32 x.la,.int .u32 x.co,.int .u32 x.inc,.bool false,.bool x.ex,.int .u32 x.dep,.int .i64 x.wt,.slice sa x.set.length sc] 29 (0,0)):=k1.at (by simp) (blk_alloc (blk_new w _));
      have B1:Below w.heap.size w w1:=((((Kept.refl (· < w.heap.size) w).alloc _).alloc _).trans (k1.mono fun k h _=>by omega)).below (Nat.le_refl _);
      have e0:w1.cell? ⟨w.heap.size,0,none⟩=some (.int .i64 1):=blk_cell hF1 0;have e4:w1.cell? ⟨w.heap.size,4,none⟩=some (.slice da x.data.length dc):=blk_cell hF1 4;have e9:w1.cell? ⟨w.heap.size,9,none⟩=some (.bool false):=blk_cell hF1 9;
      have f4:=blk_free hb1 4;have g4:w1.cell? ⟨w.heap.size+1,4,none⟩=some (.slice none 0 0):=blk_cell hb1 4)
   | (refine wpList_load_blk rfl 29 _ rfl w.heap.size rfl #[.int .i64 1,.int .i64 x.fl,.int .u32 x.st,.int .i64 x.ln,.slice da x.data.length dc,.int .u32 x.pr,.int .u32 x.la,.int .u32 x.co,.int .u32 x.inc,.bool false,.bool x.ex,.int .u32 x.dep,.int .i64 x.wt,.slice sa x.set.length sc] 29 (blk_set_other hF1 (by simp) _) Tryz.underlying29 infoFs ?_)
   | (refine wpList_load_blk rfl 29 _ rfl (w.heap.size+1) rfl #[.int .i64 1,.int .i64 x.fl,.int .u32 x.st,.int .i64 x.ln,.slice da x.data.length dc,.int .u32 0,.int .u32 0,.int .u32 0,.int .u32 0,.bool false,.bool false,.int .u32 0,.int .i64 0,.slice none 0 0] 29 (blk_set hb1 4 (.slice da x.data.length dc)) Tryz.underlying29 infoFs ?_))
 refine (HE.out _ (B1.setCell (by simp) _)).mono ?_
 rintro e w3 ⟨q,rfl,hq,b3⟩
 go_wp2
 go_ret
 exact ⟨q,rfl,fun h=>HCL.out (hq h),Below.then (B1.setCell (by simp) _) (Nat.le_refl _) b3⟩
theorem cln_1t {w:World} {x:Fr} {dv sv:Value} (hd:RdB w dv x.data) (hs:RdP w sv x.set) (bx:∀z∈x.data,0≤z∧z<256) (ht:x.ty=1) (hh:x.hp=true):Calls Tryz.prog 62 #[.agg (frX x dv sv)] w (EqAny w (x=Pl.cleanF x)):=by
 obtain ⟨sa,sc,rfl,hsc,hsm⟩:=hs.shape
 obtain ⟨da,dc,rfl,-,-⟩:=id hd
 have hcl:x = { Fr.zero with ty:=x.ty,fl:=x.fl,st:=x.st,ln:=x.ln,data:=x.data,hp:=x.hp,ex:=x.ex,dep:=x.dep,wt:=x.wt }→x=Pl.cleanF x:=fun h=>by
   unfold Pl.cleanF
   rw [ht,hh] at h ⊢
   exact h
 have HCL:=Lib.hid hcl
 have HS:=Lib.hid hs
 have HD:=Lib.hid hd
 have BX:=Lib.hid bx
 clear hs hd bx hcl
 have hE:∀w',Below w.heap.size w w'→Calls Tryz.prog 20 #[.agg #[.int .i64 1,.int .i64 x.fl,.int .u32 x.st,.int .i64 x.ln,.slice da x.data.length dc,.int .u32 x.pr,.int .u32 x.la,.int .u32 x.co,.int .u32 x.inc,.bool true,.bool x.ex,.int .u32 x.dep,.int .i64 x.wt,.slice sa x.set.length sc],.agg #[.int .i64 1,.int .i64 x.fl,.int .u32 x.st,.int .i64 x.ln,.slice da x.data.length dc,.int .u32 0,.int .u32 0,.int .u32 0,.int .u32 0,.bool true,.bool x.ex,.int .u32 x.dep,.int .i64 x.wt,.slice none 0 0]] w' (EqAny w' (x = { Fr.zero with ty:=x.ty,fl:=x.fl,st:=x.st,ln:=x.ln,data:=x.data,hp:=x.hp,ex:=x.ex,dep:=x.dep,wt:=x.wt })):=fun w' hb=>by have h:=equal_any x { Fr.zero with ty:=x.ty,fl:=x.fl,st:=x.st,ln:=x.ln,data:=x.data,hp:=x.hp,ex:=x.ex,dep:=x.dep,wt:=x.wt } _ (.slice da x.data.length dc) _ (.slice none 0 0) w' (HD.out.below hb) (HD.out.below hb) (HS.out.below hb) (RdP.nil _) BX.out BX.out;unfold frX frameC at h;rw [ht,hh] at h;rw [ht,hh];exact h
 have HE:=Lib.hid hE
 clear hE
 unfold frX frameC
 rw [ht,hh]
 go_enter Tryz.func62,Tryz.ntmps62
 go_wp2_with (first
   | (refine wpList_store_blk rfl 29 _ _ rfl (w.heap.size+1) rfl #[.int .i64 1,.int .i64 x.fl,.int .u32 x.st,.int .i64 x.ln,.slice none 0 0,.int .u32 0,.int .u32 0,.int .u32 0,.int .u32 0,.bool false,.bool false,.int .u32 0,.int .i64 0,.slice none 0 0] _ rfl 29 (blk_at _ _ (by simp)) rfl infoFs (by simp [Value.oneCell']) ?_;intro w1 hb1 k1;
      have hF1:w1.heap[w.heap.size]? = some (.cells #[.int .i64 1,.int .i64 x.fl,.int .u32 x.st,.int .i64 x.ln,.slice da x.data.length dc,.int .u32 x.pr,.int .u32 x.la,.int .u32 x.co,.int .u32 x.inc,.bool true,.bool x.ex,.int .u32 x.dep,.int .i64 x.wt,.slice sa x.set.length sc] 29 (0,0)):=k1.at (by simp) (blk_alloc (blk_new w _));
      have B1:Below w.heap.size w w1:=((((Kept.refl (· < w.heap.size) w).alloc _).alloc _).trans (k1.mono fun k h _=>by omega)).below (Nat.le_refl _);
      have e0:w1.cell? ⟨w.heap.size,0,none⟩=some (.int .i64 1):=blk_cell hF1 0;have e4:w1.cell? ⟨w.heap.size,4,none⟩=some (.slice da x.data.length dc):=blk_cell hF1 4;have e9:w1.cell? ⟨w.heap.size,9,none⟩=some (.bool true):=blk_cell hF1 9;have e10:w1.cell? ⟨w.heap.size,10,none⟩=some (.bool x.ex):=blk_cell hF1 10;have e11:w1.cell? ⟨w.heap.size,11,none⟩=some (.int .u32 x.dep):=blk_cell hF1 11;have e12:w1.cell? ⟨w.heap.size,12,none⟩=some (.int .i64 x.wt):=blk_cell hF1 12;
      have f4:=blk_free hb1 4;have g4:w1.cell? ⟨w.heap.size+1,4,none⟩=some (.slice none 0 0):=blk_cell hb1 4;have f9:=blk_free hb1 9;have g9:w1.cell? ⟨w.heap.size+1,9,none⟩=some (.bool false):=blk_cell hb1 9;have f10:=blk_free hb1 10;have g10:w1.cell? ⟨w.heap.size+1,10,none⟩=some (.bool false):=blk_cell hb1 10;have f11:=blk_free hb1 11;have g11:w1.cell? ⟨w.heap.size+1,11,none⟩=some (.int .u32 0):=blk_cell hb1 11;have f12:=blk_free hb1 12;have g12:w1.cell? ⟨w.heap.size+1,12,none⟩=some (.int .i64 0):=blk_cell hb1 12))
 obtain ⟨w2,hw2⟩:∃w2,w1.setCell ⟨w.heap.size+1,4,none⟩ (.slice da x.data.length dc)=w2:=⟨_,rfl⟩
 have hb2:(w1.setCell ⟨w.heap.size+1,4,none⟩ (.slice da x.data.length dc)).heap[w.heap.size+1]? = some (.cells #[.int .i64 1,.int .i64 x.fl,.int .u32 x.st,.int .i64 x.ln,.slice da x.data.length dc,.int .u32 0,.int .u32 0,.int .u32 0,.int .u32 0,.bool false,.bool false,.int .u32 0,.int .i64 0,.slice none 0 0] 29 (0,0)):=blk_set hb1 4 _
 have hF2:(w1.setCell ⟨w.heap.size+1,4,none⟩ (.slice da x.data.length dc)).heap[w.heap.size]? = some (.cells #[.int .i64 1,.int .i64 x.fl,.int .u32 x.st,.int .i64 x.ln,.slice da x.data.length dc,.int .u32 x.pr,.int .u32 x.la,.int .u32 x.co,.int .u32 x.inc,.bool true,.bool x.ex,.int .u32 x.dep,.int .i64 x.wt,.slice sa x.set.length sc] 29 (0,0)):=blk_set_other hF1 (by simp) _
 have B2:=B1.setCell (p:=⟨w.heap.size+1,4,none⟩) (by simp) (.slice da x.data.length dc)
 rw [hw2] at hb2 hF2 B2 ⊢
 clear hw2 B1 hF1 hb1 e0 e4 e9 e10 e11 e12 f4 f9 f10 f11 f12 g4 g9 g10 g11 g12
 have f9:=blk_free hb2 9
 have g9:w2.cell? ⟨w.heap.size+1,9,none⟩=some (.bool false):=blk_cell hb2 9
 have e10:w2.cell? ⟨w.heap.size,10,none⟩=some (.bool x.ex):=blk_cell hF2 10
 have f10:=blk_free hb2 10
 have g10:w2.cell? ⟨w.heap.size+1,10,none⟩=some (.bool false):=blk_cell hb2 10
 have e11:w2.cell? ⟨w.heap.size,11,none⟩=some (.int .u32 x.dep):=blk_cell hF2 11
 have f11:=blk_free hb2 11
 have g11:w2.cell? ⟨w.heap.size+1,11,none⟩=some (.int .u32 0):=blk_cell hb2 11
 have e12:w2.cell? ⟨w.heap.size,12,none⟩=some (.int .i64 x.wt):=blk_cell hF2 12
 have f12:=blk_free hb2 12
 have g12:w2.cell? ⟨w.heap.size+1,12,none⟩=some (.int .i64 0):=blk_cell hb2 12
 go_region_held3 (fun w'=>w'.cell? ⟨w.heap.size,10,none⟩=some (.bool x.ex)∧w'.cell? ⟨w.heap.size,11,none⟩=some (.int .u32 x.dep)∧w'.cell? ⟨w.heap.size,12,none⟩=some (.int .i64 x.wt)) (go_keep) (first|fail)
 go_wp2_with (first
   | (refine wpList_load_blk rfl 29 _ rfl w.heap.size rfl #[.int .i64 1,.int .i64 x.fl,.int .u32 x.st,.int .i64 x.ln,.slice da x.data.length dc,.int .u32 x.pr,.int .u32 x.la,.int .u32 x.co,.int .u32 x.inc,.bool true,.bool x.ex,.int .u32 x.dep,.int .i64 x.wt,.slice sa x.set.length sc] 29 (blk_set_other (blk_set_other (blk_set_other (blk_set_other hF2 (by simp) _) (by simp) _) (by simp) _) (by simp) _) Tryz.underlying29 infoFs ?_)
   | (refine wpList_load_blk rfl 29 _ rfl (w.heap.size+1) rfl #[.int .i64 1,.int .i64 x.fl,.int .u32 x.st,.int .i64 x.ln,.slice da x.data.length dc,.int .u32 0,.int .u32 0,.int .u32 0,.int .u32 0,.bool true,.bool x.ex,.int .u32 x.dep,.int .i64 x.wt,.slice none 0 0] 29 (blk_set (blk_set (blk_set (blk_set hb2 9 (.bool true)) 10 (.bool x.ex)) 11 (.int .u32 x.dep)) 12 (.int .i64 x.wt)) Tryz.underlying29 infoFs ?_))
 refine (HE.out _ (((((B2.setCell (by simp) _).setCell (by simp) _).setCell (by simp) _).setCell (by simp) _).drew)).mono ?_
 rintro e w3 ⟨q,rfl,hq,b3⟩
 go_wp2
 go_ret
 exact ⟨q,rfl,fun h=>HCL.out (hq h),Below.then (((((B2.setCell (by simp) _).setCell (by simp) _).setCell (by simp) _).setCell (by simp) _).drew) (Nat.le_refl _) b3⟩
theorem cln_o {w:World} {x:Fr} {dv sv:Value} (hd:RdB w dv x.data) (hs:RdP w sv x.set) (bx:∀z∈x.data,0≤z∧z<256) (ht:x.ty<0∨(10≤x.ty∧x.ty≠16)):Calls Tryz.prog 62 #[.agg (frX x dv sv)] w (EqAny w (x=Pl.cleanF x)):=by
 obtain ⟨sa,sc,rfl,hsc,hsm⟩:=hs.shape
 obtain ⟨da,dc,rfl,-,-⟩:=id hd
 have hcl:x = { Fr.zero with ty:=x.ty,fl:=x.fl,st:=x.st,ln:=x.ln,data:=x.data }→x=Pl.cleanF x:=fun h=>by
   unfold Pl.cleanF
   rw [if_neg,if_neg,if_neg,if_neg,if_neg,if_neg,if_neg,if_neg]
   · exact h
   all_goals omega
 have HCL:=Lib.hid hcl
 have HS:=Lib.hid hs
 have HD:=Lib.hid hd
 have BX:=Lib.hid bx
 clear hs hd bx hcl
 have hE:∀w',Below w.heap.size w w'→Calls Tryz.prog 20 #[.agg #[.int .i64 x.ty,.int .i64 x.fl,.int .u32 x.st,.int .i64 x.ln,.slice da x.data.length dc,.int .u32 x.pr,.int .u32 x.la,.int .u32 x.co,.int .u32 x.inc,.bool x.hp,.bool x.ex,.int .u32 x.dep,.int .i64 x.wt,.slice sa x.set.length sc],.agg #[.int .i64 x.ty,.int .i64 x.fl,.int .u32 x.st,.int .i64 x.ln,.slice da x.data.length dc,.int .u32 0,.int .u32 0,.int .u32 0,.int .u32 0,.bool false,.bool false,.int .u32 0,.int .i64 0,.slice none 0 0]] w' (EqAny w' (x = { Fr.zero with ty:=x.ty,fl:=x.fl,st:=x.st,ln:=x.ln,data:=x.data })):=fun w' hb=>by have h:=equal_any x { Fr.zero with ty:=x.ty,fl:=x.fl,st:=x.st,ln:=x.ln,data:=x.data } _ (.slice da x.data.length dc) _ (.slice none 0 0) w' (HD.out.below hb) (HD.out.below hb) (HS.out.below hb) (RdP.nil _) BX.out BX.out;unfold frX frameC at h;exact h
 have HE:=Lib.hid hE
 clear hE
 unfold frX frameC
 have t0:(x.ty==0)=false:=beq_false_of_ne (by omega)
 have t1:(x.ty==1)=false:=beq_false_of_ne (by omega)
 have t2:(x.ty==2)=false:=beq_false_of_ne (by omega)
 have t3:(x.ty==3)=false:=beq_false_of_ne (by omega)
 have t4:(x.ty==4)=false:=beq_false_of_ne (by omega)
 have t5:(x.ty==5)=false:=beq_false_of_ne (by omega)
 have t6:(x.ty==6)=false:=beq_false_of_ne (by omega)
 have t7:(x.ty==7)=false:=beq_false_of_ne (by omega)
 have t8:(x.ty==8)=false:=beq_false_of_ne (by omega)
 have t9:(x.ty==9)=false:=beq_false_of_ne (by omega)
 have t16:(x.ty==16)=false:=beq_false_of_ne (by omega)
 clear ht
 go_enter Tryz.func62,Tryz.ntmps62
 go_wp2_with (first
   | (refine wpList_store_blk rfl 29 _ _ rfl (w.heap.size+1) rfl #[.int .i64 x.ty,.int .i64 x.fl,.int .u32 x.st,.int .i64 x.ln,.slice none 0 0,.int .u32 0,.int .u32 0,.int .u32 0,.int .u32 0,.bool false,.bool false,.int .u32 0,.int .i64 0,.slice none 0 0] _ rfl 29 (blk_at _ _ (by simp)) rfl infoFs (by simp [Value.oneCell']) ?_;intro w1 hb1 k1;
      have hF1:w1.heap[w.heap.size]? = some (.cells #[.int .i64 x.ty,.int .i64 x.fl,.int .u32 x.st,.int .i64 x.ln,.slice da x.data.length dc,.int .u32 x.pr,.int .u32 x.la,.int .u32 x.co,.int .u32 x.inc,.bool x.hp,.bool x.ex,.int .u32 x.dep,.int .i64 x.wt,.slice sa x.set.length sc] 29 (0,0)):=k1.at (by simp) (blk_alloc (blk_new w _));
      have B1:Below w.heap.size w w1:=((((Kept.refl (· < w.heap.size) w).alloc _).alloc _).trans (k1.mono fun k h _=>by omega)).below (Nat.le_refl _);
      have e0:w1.cell? ⟨w.heap.size,0,none⟩=some (.int .i64 x.ty):=blk_cell hF1 0;have e4:w1.cell? ⟨w.heap.size,4,none⟩=some (.slice da x.data.length dc):=blk_cell hF1 4;
      have f4:=blk_free hb1 4;have g4:w1.cell? ⟨w.heap.size+1,4,none⟩=some (.slice none 0 0):=blk_cell hb1 4)
   | (refine wpList_load_blk rfl 29 _ rfl w.heap.size rfl #[.int .i64 x.ty,.int .i64 x.fl,.int .u32 x.st,.int .i64 x.ln,.slice da x.data.length dc,.int .u32 x.pr,.int .u32 x.la,.int .u32 x.co,.int .u32 x.inc,.bool x.hp,.bool x.ex,.int .u32 x.dep,.int .i64 x.wt,.slice sa x.set.length sc] 29 (blk_set_other hF1 (by simp) _) Tryz.underlying29 infoFs ?_)
   | (refine wpList_load_blk rfl 29 _ rfl (w.heap.size+1) rfl #[.int .i64 x.ty,.int .i64 x.fl,.int .u32 x.st,.int .i64 x.ln,.slice da x.data.length dc,.int .u32 0,.int .u32 0,.int .u32 0,.int .u32 0,.bool false,.bool false,.int .u32 0,.int .i64 0,.slice none 0 0] 29 (blk_set hb1 4 (.slice da x.data.length dc)) Tryz.underlying29 infoFs ?_))
 refine (HE.out _ (B1.setCell (by simp) _)).mono ?_
 rintro e w3 ⟨q,rfl,hq,b3⟩
 go_wp2
 go_ret
 exact ⟨q,rfl,fun h=>HCL.out (hq h),Below.then (B1.setCell (by simp) _) (Nat.le_refl _) b3⟩
theorem clean_any {w:World} {x:Fr} {dv sv:Value} (hd:RdB w dv x.data) (hs:RdP w sv x.set) (bx:∀z∈x.data,0≤z∧z<256):Calls Tryz.prog 62 #[.agg (frX x dv sv)] w (EqAny w (x=Pl.cleanF x)):=by
 by_cases h0:x.ty=0
 · exact cln_0 hd hs bx h0
 by_cases h1:x.ty=1
 · cases hh:x.hp with
   | false=>exact cln_1f hd hs bx h1 hh
   | true=>exact cln_1t hd hs bx h1 hh
 by_cases h2:x.ty=2
 · exact cln_2 hd hs bx h2
 by_cases h3:x.ty=3
 · exact cln_3 hd hs bx h3
 by_cases h4:x.ty=4
 · exact cln_4 hd hs bx h4
 by_cases h5:x.ty=5
 · exact cln_5 hd hs bx h5
 by_cases h6:x.ty=6
 · exact cln_6 hd hs bx h6
 by_cases h7:x.ty=7
 · exact cln_7 hd hs bx h7
 by_cases h8:x.ty=8
 · exact cln_8 hd hs bx h8
 by_cases h9:x.ty=9
 · exact cln_9 hd hs bx h9
 by_cases h16:x.ty=16
 · exact cln_16 hd hs bx h16
 · exact cln_o hd hs bx (by omega)
end Go.Proofs.YtfdlbjibninakaaGreatDoor

/- spec.Equal at any two frames: true only where they are equal. -/
import Derived.Test.YtfdlbjibninakaaGreatDoorEq
import Derived.BigGuardPart
import Derived.Deep.CutRange
import Derived.Deep.LoopGhost
import Derived.Deep.RegionHeld3
import Derived.Deep.RegionLaw
import Derived.IntWalk
import Derived.LaidEql
import Derived.Laws.BitsAllLaws
import Derived.Lib.ConvBytes
import Derived.RegionTactic
import Derived.RowKitTokens
import Derived.Stop.Asserts
set_option linter.unusedVariables false
set_option linter.unusedSimpArgs false
namespace Go.Proofs.YtfdlbjibninakaaGreatDoor
set_option maxRecDepth 10000
set_option maxHeartbeats 16000000
open Go.RowKit
theorem toList_loop (bs:ByteArray):∀(n i:Nat) (r:List UInt8),bs.size-i=n→ByteArray.toList.loop bs i r=r.reverse++bs.data.toList.drop i:=by
 intro n
 induction n with
 | zero =>
   intro i r h
   unfold ByteArray.toList.loop
   rw [if_neg (by omega),List.drop_of_length_le (by have:bs.size=bs.data.toList.length:=rfl;omega),List.append_nil]
 | succ n ih =>
   intro i r h
   unfold ByteArray.toList.loop
   have hs:bs.size=bs.data.toList.length:=rfl
   have hi:i<bs.data.toList.length:=by omega
   rw [if_pos (by omega),ih _ _ (by omega),List.drop_eq_getElem_cons hi]
   have e:bs.get! i=bs.data.toList[i]:=by
     simp at hi
     simp [ByteArray.get!,hi]
   simp [e]
theorem ba_toList (bs:ByteArray):bs.toList=bs.data.toList:=by
 unfold ByteArray.toList
 rw [toList_loop bs _ 0 [] rfl]
 rfl
theorem ba_inj {a b:ByteArray} (h:a.toList=b.toList):a=b:=by
 rw [ba_toList,ba_toList] at h
 cases a
 cases b
 congr
 exact Array.ext' h
theorem strOfNums_inj {a b:List Int} (ha:∀x∈a,0≤x∧x<256) (hb:∀x∈b,0≤x∧x<256) (h:strOfNums a=strOfNums b):a=b:=by
 have h1:a.map (fun x=>UInt8.ofNat x.toNat)=b.map (fun x=>UInt8.ofNat x.toNat):=by
   have:=congrArg (fun s:ByteArray=>s.data.toList) h
   simpa [strOfNums] using this
 clear h
 induction a generalizing b with
 | nil=>cases b with
   | nil=>rfl
   | cons y b=>simp at h1
 | cons x a ih =>
   cases b with
   | nil=>simp at h1
   | cons y b =>
     simp only [List.map_cons,List.cons.injEq] at h1
     have hx:=ha x (List.mem_cons_self ..)
     have hy:=hb y (List.mem_cons_self ..)
     have e:x=y:=by
       have:=congrArg UInt8.toNat h1.1
       simp at this
       omega
     rw [e,ih (fun z hz=>ha z (List.mem_cons_of_mem _ hz)) (fun z hz=>hb z (List.mem_cons_of_mem _ hz)) h1.2]
theorem fr_eq {x y:Fr} (h0:x.ty=y.ty) (h1:x.fl=y.fl) (h2:x.st=y.st) (h3:x.ln=y.ln) (h4:x.data=y.data) (h5:x.pr=y.pr) (h6:x.la=y.la) (h7:x.co=y.co) (h8:x.inc=y.inc) (h9:x.hp=y.hp) (h10:x.ex=y.ex) (h11:x.dep=y.dep) (h12:x.wt=y.wt) (h13:x.set=y.set):x=y:=by
 cases x
 cases y
 simp only at *
 subst h0 h1 h2 h3 h4 h5 h6 h7 h8 h9 h10 h11 h12 h13
 rfl
def EqAny (w:World) (P:Prop) (e:Ending) (w':World):Prop := ∃q:Bool,e = .returned (.bool q)∧(q=true→P)∧Below w.heap.size w w'
theorem EqAny.no {w w':World} {P:Prop} (h:Below w.heap.size w w'):EqAny w P (.returned (.bool false)) w':=⟨false,rfl,by simp,h⟩
theorem equal_any (x y:Fr) (dv ev sv tv:Value) (w:World) (hd:RdB w dv x.data) (he:RdB w ev y.data) (hs:RdP w sv x.set) (ht:RdP w tv y.set) (bx:∀z∈x.data,0≤z∧z<256) (by':∀z∈y.data,0≤z∧z<256) :
   Calls Tryz.prog 20 #[.agg (frX x dv sv),.agg (frX y ev tv)] w (EqAny w (x=y)):=by
 obtain ⟨sa,sc,rfl,hsc,hsm⟩:=hs.shape
 obtain ⟨ta,tc,rfl,htc,htm⟩:=ht.shape
 have hB2:Below w.heap.size w ((w.alloc (.cells (frX x dv (.slice sa x.set.length sc)) 29)).alloc (.cells (frX y ev (.slice ta y.set.length tc)) 29)):=(((Kept.refl (· < w.heap.size) w).alloc _).alloc _).below (Nat.le_refl _)
 have e1:∀o1 o2:Obj,(convert 22 9 dv).run Tryz.prog ((w.alloc o1).alloc o2) = .ok (.string (strOfNums x.data)) ((w.alloc o1).alloc o2):=fun o1 o2=>hd.run ((((Kept.refl (· < w.heap.size) w).alloc _).alloc _).below (Nat.le_refl _))
 have e2:∀o1 o2:Obj,(convert 22 9 ev).run Tryz.prog ((w.alloc o1).alloc o2) = .ok (.string (strOfNums y.data)) ((w.alloc o1).alloc o2):=fun o1 o2=>he.run ((((Kept.refl (· < w.heap.size) w).alloc _).alloc _).below (Nat.le_refl _))
 have HS:=Lib.hid hs
 have HT:=Lib.hid ht
 have HEQ:Hid (strOfNums x.data=strOfNums y.data→x.data=y.data):=Lib.hid (strOfNums_inj bx by')
 clear hs ht hd he bx by'
 obtain ⟨zx,hzx⟩:∃z,strOfNums x.data=z:=⟨_,rfl⟩
 obtain ⟨zy,hzy⟩:∃z,strOfNums y.data=z:=⟨_,rfl⟩
 rw [hzx] at e1 HEQ
 rw [hzy] at e2 HEQ
 clear hzx hzy
 unfold frX frameC
 unfold maxLen at hsm htm
 have hB2:Hid (∀(o1 o2:Obj),Below w.heap.size w ((w.alloc o1).alloc o2)):=Lib.hid fun o1 o2=>(((Kept.refl (· < w.heap.size) w).alloc _).alloc _).below (Nat.le_refl _)
 go_enter Tryz.func20,Tryz.ntmps20
 go_upto_region 1 with fail
 generalize Value.agg #[.int .i64 x.ty,.int .i64 x.fl,.int .u32 x.st,.int .i64 x.ln,dv,.int .u32 x.pr,.int .u32 x.la,.int .u32 x.co,.int .u32 x.inc,.bool x.hp,.bool x.ex,.int .u32 x.dep,.int .i64 x.wt,.slice sa x.set.length sc]=A0
 generalize Value.agg #[.int .i64 y.ty,.int .i64 y.fl,.int .u32 y.st,.int .i64 y.ln,ev,.int .u32 y.pr,.int .u32 y.la,.int .u32 y.co,.int .u32 y.inc,.bool y.hp,.bool y.ex,.int .u32 y.dep,.int .i64 y.wt,.slice ta y.set.length tc]=A1
 go_cut [105] from 6 (fun v wc => ∃q:Bool,v = .bool q∧(q=false→(x.set=y.set→x=y)∧x.set.length=y.set.length)∧Below w.heap.size w wc∧wc.cell? ⟨w.heap.size,13,none⟩=some (.slice sa x.set.length sc)∧wc.cell? ⟨w.heap.size+1,13,none⟩=some (.slice ta y.set.length tc))
 case first =>
   have c13:Hid (∀(o1:Array Value) (o2:Obj) (v:Value),o1[13]? = some v→((w.alloc (.cells o1 29)).alloc o2).cell? ⟨w.heap.size,13,none⟩=some v):=Lib.hid fun o1 o2 v hv=>(blk_cell (blk_alloc (blk_new w _)) 13).trans hv
   have d13:Hid (∀(o1:Obj) (o2:Array Value) (v:Value),o2[13]? = some v→((w.alloc o1).alloc (.cells o2 29)).cell? ⟨w.heap.size+1,13,none⟩=some v):=Lib.hid fun o1 o2 v hv=>(blk_cell (blk_at (w.alloc o1) _ (by simp)) 13).trans hv
   go_wp2_with fail
   all_goals go_meet
   all_goals first
     | exact ⟨true,rfl,fun h=>(by cases h),hB2.out _ _,c13.out _ _ _ rfl,d13.out _ _ _ rfl⟩
     | exact ⟨_,rfl,fun hqq=>⟨fun hset=>fr_eq (by assumption) (by assumption) (by assumption) (by assumption) (HEQ.out (ba_inj (by assumption))) (by assumption) (by assumption) (by assumption) (by assumption) (by assumption) (by assumption) (by assumption) (by assumption) hset,by simp at hqq;omega⟩,hB2.out _ _,c13.out _ _ _ rfl,d13.out _ _ _ rfl⟩
 case rest =>
  obtain ⟨q,rfl,hq,hbq,hA,hBq⟩:=hcut
  have HQ:=Lib.hid hq
  clear hq e1 e2
  cases q
  case true =>
   go_wp2
   go_ret
   exact .no hbq
  have hxy:Hid (x.set=y.set→x=y):=Lib.hid (HQ.out rfl).1
  have HLEN:Hid (x.set.length=y.set.length):=Lib.hid (HQ.out rfl).2
  clear HQ
  have HAB:=Lib.hid (⟨hbq,hA,hBq⟩:_∧_∧_)
  go_wp2
  go_loopw [109] (fun i wr => ∃k:Nat,k≤x.set.length∧i = .int .i64 k∧x.set.take k=y.set.take k∧Below w.heap.size w wr∧wr.cell? ⟨w.heap.size,13,none⟩=some (.slice sa x.set.length sc)∧wr.cell? ⟨w.heap.size+1,13,none⟩=some (.slice ta y.set.length tc)) (fun i _=>x.set.length-(intOf i).toNat)
  case atStart=>exact ⟨0,Nat.zero_le _,rfl,rfl,HAB.out.1,HAB.out.2.1,HAB.out.2.2⟩
  case round =>
    obtain ⟨k,hk,rfl,htk,hbel,cA,cB⟩:=hrel
    by_cases hlt:k<x.set.length
    · have hlt2:k<y.set.length:=by have:=HLEN.out;omega
      obtain ⟨_,_,e1,-,-,q1⟩:=HS.out.below hbel
      obtain ⟨_,_,e2,-,-,q2⟩:=HT.out.below hbel
      cases e1
      cases e2
      obtain ⟨ba,oa,rfl,u1,u2⟩:=q1 k _ (List.getElem?_eq_getElem hlt)
      obtain ⟨bb,ob,rfl,v1,v2⟩:=q2 k _ (List.getElem?_eq_getElem hlt2)
      obtain ⟨q,hq,hqr⟩:=neq_set x.set[k].1 x.set[k].2 y.set[k].1 y.set[k].2
      have hnext:q=false→x.set.take (k+1)=y.set.take (k+1):=fun e=>by
        rw [List.take_succ_eq_append_getElem hlt,List.take_succ_eq_append_getElem hlt2,htk]
        have:=hq.1 e
        congr 2
        exact Prod.ext this.1 this.2
      have HN:=Lib.hid hnext
      have HTK:=Lib.hid htk
      clear q1 q2 hq hnext htk
      generalize x.set[k].1=x1 at *
      generalize x.set[k].2=x2 at *
      generalize y.set[k].1=y1 at *
      generalize y.set[k].2=y2 at *
      have hqf:∀b,b=q→(Value.bool b = .bool q):=fun b e=>by rw [e]
      clear hqf
      have hki:(k:Int)<x.set.length:=by omega
      have hki2:(k:Int)<y.set.length:=by omega
      generalize x.set.length=n at *
      generalize y.set.length=m at *
      cases q
      all_goals
        go_wp2
        refine wp_region_quiet_lit (by kernel_rfl) (by kernel_rfl) ?_
        repeat (first
          | (refine quiet_load_at rfl 97 _ rfl ba _ rfl #[.int .i64 x1,.int .u32 x2] (by rintro _ ⟨_,rfl⟩;exact two_at u1 u2 (by simp;omega)) Tryz.underlying97 infoSs' ?_)
          | (refine quiet_load_at rfl 97 _ rfl bb _ rfl #[.int .i64 y1,.int .u32 y2] (by rintro _ ⟨_,rfl⟩;exact two_at v1 v2 (by simp;omega)) Tryz.underlying97 infoSs' ?_)
          | quiet_step (fail))
        refine wpQuiet_nil ?_
        intro _ hw'
        obtain ⟨nq,hw''⟩:=hw'
        subst hw''
        go_wp2
      · go_roundw
        case rel=>exact ⟨k+1,by omega,by go_num,HN.out (by trivial),⟨hbel.os,hbel.tape,hbel.output,hbel.size,hbel.block⟩,cA,cB⟩
        case measure=>simp [intOf];omega
      · go_ret
        exact .no ⟨hbel.os,hbel.tape,hbel.output,hbel.size,hbel.block⟩
    · have hfin:x.set=y.set:=by
        have h:=htk
        rw [List.take_of_length_le (by omega),List.take_of_length_le (by have:=HLEN.out;omega)] at h
        exact h
      have HF:=Lib.hid hfin
      clear hfin htk
      go_wp2
      go_ret
      exact ⟨true,rfl,fun _=>hxy.out HF.out,hbel⟩
end Go.Proofs.YtfdlbjibninakaaGreatDoor

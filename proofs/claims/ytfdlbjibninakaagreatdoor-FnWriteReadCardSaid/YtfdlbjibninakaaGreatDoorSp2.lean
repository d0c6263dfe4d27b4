/- The reference's reading: unpadded, dependency. -/
import Derived.Test.YtfdlbjibninakaaGreatDoorMl2
import Derived.Test.YtfdlbjibninakaaGreatDoorBase
import Derived.Test.YtfdlbjibninakaaGreatDoorPs8
import Derived.Test.YtfdlbjibninakaaGreatDoorCf
import Derived.Deep.QuietTactic
import Derived.BigQuiet
import Derived.Deep.RegionHeld3
import Derived.Deep.RegionLaw
import Derived.LaidEql
import Derived.Outline
import Derived.RowKitTokens
import Derived.Stop.Asserts
import Derived.IntWalk
set_option linter.unusedVariables false
set_option linter.unusedSimpArgs false
namespace Go.Proofs.YtfdlbjibninakaaGreatDoor
set_option maxRecDepth 10000
set_option maxHeartbeats 8000000
open Go.RowKit
def numOf (l:List Int):Int:=l.foldl (fun n c=>n*256+c) 0
theorem numOf_snoc (l:List Int) (c:Int):numOf (l ++ [c])=numOf l*256+c:=by simp [numOf]
theorem numOf_bd' (l:List Int):∀(n m:Int),Bs l→0≤n→n<m→0≤l.foldl (fun n c=>n*256+c) n∧l.foldl (fun n c=>n*256+c) n<m*256 ^ l.length:=by
 induction l with
 | nil=>intro n m _ h0 h1;simp;exact ⟨h0,h1⟩
 | cons c l ih =>
   intro n m hb h0 h1
   have hc:=hb c (List.mem_cons_self ..)
   have:=ih (n*256+c) (m*256) (fun x hx=>hb x (List.mem_cons_of_mem _ hx)) (by omega) (by omega)
   rw [List.foldl_cons,List.length_cons,Int.pow_succ,Int.mul_comm (256 ^ l.length),←Int.mul_assoc]
   exact this
theorem numOf_bd (l:List Int) (hb:Bs l):0≤numOf l∧numOf l<256 ^ l.length:=by
 have:=numOf_bd' l 0 1 hb (by omega) (by omega)
 rw [Int.one_mul] at this
 exact this
theorem number_any (a:Option Addr) (c:Nat) (l:List Int) (w:World) (h:RdB w (.slice a l.length c) l) (hb:Bs l) (hl:l.length≤4):Calls Tryz.prog 38 #[.slice a l.length c] w fun e w'=>e = .returned (.int .u32 (numOf l))∧w=w':=by
 obtain ⟨_,_,e,_,_,h3⟩:=h
 cases e
 have H3:=Lib.hid h3
 clear h3
 go_enter Tryz.func38,Tryz.ntmps38
 go_wp2
 go_loop [3,8] (fun n i => ∃k:Nat,k≤l.length∧i = .int .i64 k∧n = .int .u32 (numOf (l.take k))) (fun _ i=>l.length-(intOf i).toNat)
 case atStart=>exact ⟨0,Nat.zero_le _,rfl,rfl⟩
 case round =>
   obtain ⟨k,hk,rfl,rfl⟩:=hrel
   by_cases hlt:k<l.length
   · obtain ⟨b,o,rfl,hc⟩:=H3.out k _ (List.getElem?_eq_getElem hlt)
     have hbd:=numOf_bd (l.take k) (hb.take k)
     have hx:=hb _ (List.getElem_mem hlt)
     have hs:numOf (l.take (k+1))=numOf (l.take k)*256+l[k]:=by rw [List.take_succ_eq_append_getElem hlt,numOf_snoc]
     have h24:numOf (l.take k)<16777216:=by
       have e:(l.take k).length=k:=by rw [List.length_take];omega
       rw [e] at hbd
       have:k≤3:=by omega
       match k,this with
       | 0,_=>omega
       | 1,_=>omega
       | 2,_=>omega
       | 3,_=>omega
     have h0:=hbd.1
     have hor:bits .or .u32 (numOf (l.take k)*256) l[k]=numOf (l.take k)*256+l[k]:=u32_or_add' 8 hx.1 (by simp;omega) h0 (by simp;omega)
     have HS:=Lib.hid hs
     clear hs hbd
     generalize numOf (l.take k)=n at *
     generalize l[k]=y at *
     go_wp2
     go_round
     case rel=>exact ⟨k+1,by omega,by go_num,by rw [HS.out]⟩
     case measure=>simp [intOf];omega
   · have hkl:k=l.length:=by omega
     subst hkl
     rw [List.take_length]
     go_wp2
     go_ret
     exact ⟨rfl,rfl⟩
theorem numOf_3 (b:List Int) (h:3≤b.length):numOf (b.take 3)=gb b 0*65536+gb b 1*256+gb b 2:=by
 match b,h with
 | x::y::z::b,_=>simp [numOf,gb];omega
theorem numOf_4 (b:List Int) (h:9≤b.length):numOf ((b.take 9).drop 5)=n32 b 5:=by
 match b,h with
 | a0::a1::a2::a3::a4::a5::a6::a7::a8::b,_=>simp [numOf,n32,gb];omega
theorem RdI.sub {k:IntKind} {w:World} {b o n c:Nat} {l:List Int} (h:RdI k w (.slice (some ⟨b,o,none⟩) n c) l) {i j:Nat} (hi:i≤j) (hj:j≤n):RdI k w (.slice (some ⟨b,o+i,none⟩) (j-i) (c-i)) ((l.take j).drop i):=by
 obtain ⟨a',c',e,h1,h2,h3⟩:=h
 cases e
 refine ⟨_,_,by rw [List.length_drop,List.length_take,Nat.min_eq_left hj],by rw [List.length_drop,List.length_take];omega,by omega,fun q x hq => ?_⟩
 rw [List.getElem?_drop,List.getElem?_take] at hq
 split at hq
 · obtain ⟨b,o,e,hc⟩:=h3 _ x hq
   cases e
   refine ⟨b,o+i,rfl,?_⟩
   rw [Nat.add_assoc]
   exact hc
 · cases hq
def HdrS (w:World) (ln ty fl st:Int) (e:Ending) (w':World):Prop:=e = .returned (.tuple #[.int .i64 ln,.int .i64 ty,.int .i64 fl,.int .u32 st]) ∧ ∃n,w'=w.drewN n
theorem headerS_any (a:Option Addr) (n c:Nat) (b:List Int) (w:World) (h:RdB w (.slice a n c) b) (hb:Bs b) (hn:9≤n):Calls Tryz.prog 22 #[.slice a n c] w (HdrS w (hdOf b).ln (hdOf b).ty (hdOf b).fl (hdOf b).st):=by
 have h':=h
 obtain ⟨_,_,e,hc1,hc2,h3⟩:=h'
 cases e
 obtain ⟨q,o,e3,hx3⟩:=h3 3 _ (List.getElem?_eq_getElem (by omega))
 cases e3
 obtain ⟨_,_,e4,hx4⟩:=h3 4 _ (List.getElem?_eq_getElem (by omega))
 cases e4
 have g3:b[3]=(hdOf b).ty:=by
   show b[3]=b.getD 3 0
   rw [List.getD_eq_getElem?_getD,List.getElem?_eq_getElem];rfl
 have g4:b[4]=(hdOf b).fl:=by
   show b[4]=b.getD 4 0
   rw [List.getD_eq_getElem?_getD,List.getElem?_eq_getElem];rfl
 rw [g3] at hx3
 rw [g4] at hx4
 have n1:∀m,Calls Tryz.prog 38 #[.slice (some ⟨q,o,none⟩) 3 c] (w.drewN m) fun e w'=>e = .returned (.int .u32 (hdOf b).ln)∧w'=w.drewN m:=by
   intro m
   have hl:(b.take 3).length=3:=by simp;omega
   have:=number_any (some ⟨q,o,none⟩) c (b.take 3) (w.drewN m) (by rw [hl];exact h.take (m:=3) (by omega)) (hb.take 3) (by omega)
   rw [hl] at this
   refine this.mono fun e w' ⟨he,hw⟩=>⟨?_,hw.symm⟩
   rw [he,numOf_3 b (by omega)];rfl
 have n2:∀m,Calls Tryz.prog 38 #[.slice (some ⟨q,o+5,none⟩) 4 (c-5)] (w.drewN m) fun e w'=>e = .returned (.int .u32 (n32 b 5))∧w'=w.drewN m:=by
   intro m
   have hl:((b.take 9).drop 5).length=4:=by simp;omega
   have:=number_any (some ⟨q,o+5,none⟩) (c-5) ((b.take 9).drop 5) (w.drewN m) (by rw [hl];exact h.sub (i:=5) (j:=9) (by omega) (by omega)) ((hb.take 9).drop 5) (by omega)
   rw [hl] at this
   refine this.mono fun e w' ⟨he,hw⟩=>⟨?_,hw.symm⟩
   rw [he,numOf_4 b (by omega)]
 have hb32:=Pl.n32_bd (b:=b) hb 5
 have hand:bits .and .u32 (n32 b 5) 2147483647=(hdOf b).st:=u32_low _ hb32.1 hb32.2
 have hbd:=Pl.hdOf_bd (b:=b) hb
 have hbl:9≤b.length:=hn
 obtain ⟨⟨t0,t1⟩,⟨f0,f1⟩,⟨l0,l1⟩,-⟩:=hbd
 have hn':b.length≤9223372036854775807:=by unfold maxLen at hc2;omega
 clear h3 h g3 g4 hb
 generalize (hdOf b).ty=ty at *
 generalize (hdOf b).fl=fl at *
 generalize (hdOf b).ln=ln at *
 generalize (hdOf b).st=st at *
 generalize n32 b 5=n5 at *
 generalize b.length=len at *
 go_enter Tryz.func22,Tryz.ntmps22
 go_wp2
 go_quiet ((first|(go_at_call 38;with_reducible exact Calls.quiet_of_same (n1 _))|(go_at_call 38;with_reducible exact Calls.quiet_of_same (n2 _))))
 go_wp2
 exact bodyPost_ret (v:=.tuple #[.int .i64 ln,.int .i64 ty,.int .i64 fl,.int .u32 st]) (by simp [results,Tryz.results22,go_sem]) rfl ⟨rfl,nq,rfl⟩
end Go.Proofs.YtfdlbjibninakaaGreatDoor

namespace Go.Proofs.YtfdlbjibninakaaGreatDoor
set_option maxRecDepth 10000
set_option maxHeartbeats 4000000
open Go.RowKit
theorem below_new' {w1 w2:World} {o:Obj} (k:Kept (· ≠ w1.heap.size) (w1.alloc o) w2):Below w1.heap.size w1 w2:=((Kept.refl (· < w1.heap.size) w1).alloc _).trans (k.mono fun _ h _=>Nat.ne_of_lt h) |>.below (Nat.le_refl _)
theorem Below.step' {w w1 w2:World} (h:Below w.heap.size w w1) (g:Below w1.heap.size w1 w2):Below w.heap.size w w2:=Below.then h (Nat.le_refl _) g
def SpBad (w:World) (r:Rs) (e:Ending) (w':World):Prop:=e = .returned (.agg (rsX r (.slice none 0 0) (.slice none 0 0)))∧Below w.heap.size w w'
theorem connS_any (c:Int) (w:World):Calls Tryz.prog 24 #[.int .u32 c] w (SpBad w (.bad 4 c 0)):=by
 go_enter Tryz.func24,Tryz.ntmps24
 go_wp2_with (refine wpList_store_blk rfl _ _ _ rfl w.heap.size rfl (rsX (.bad 4 c 0) (.slice none 0 0) (.slice none 0 0)) _ rfl 31 (blk_new _ _) rfl infoRs (rsX_one _ _ _ _ _ _ _) ?_;intro w1 hb1 hk1)
 exact ret_blk rfl w.heap.size _ _ rfl hb1 Tryz.underlying31 infoRs rfl ⟨rfl,below_new' hk1⟩
theorem eitherS_any (p q:Bool) (w:World):Calls Tryz.prog 40 #[.bool p,.bool q] w (SpBad w (Pl.eitherR p q)):=by
 cases p<;>cases q
 · show Calls _ _ _ _ (SpBad w (.bad 4 6 0))
   go_enter Tryz.func40,Tryz.ntmps40
   go_wp2_with (first
     | (go_at_call 24;refine (connS_any 6 _).mono ?_;rintro e w1 ⟨rfl,hb1⟩;have hq:=blk_below (blk_new w _) hb1)
     | (refine wpList_store_blk rfl _ _ _ rfl w.heap.size rfl (rsX (.bad 4 6 0) (.slice none 0 0) (.slice none 0 0)) _ rfl 31 hq rfl infoRs (rsX_one _ _ _ _ _ _ _) ?_;intro w2 hb2 hk2))
   refine ret_blk rfl w.heap.size _ _ rfl hb2 Tryz.underlying31 infoRs rfl ⟨rfl,?_⟩
   exact ((((Kept.refl (· < w.heap.size) w).alloc _).trans ((Kept.ofBelow hb1).mono fun k h _=>by simp;omega)).trans (hk2.mono fun k h _=>Nat.ne_of_lt h)).below (Nat.le_refl _)
 · show Calls _ _ _ _ (SpBad w (.bad 4 6 0))
   go_enter Tryz.func40,Tryz.ntmps40
   go_wp2_with (first
     | (go_at_call 24;refine (connS_any 6 _).mono ?_;rintro e w1 ⟨rfl,hb1⟩;have hq:=blk_below (blk_new w _) hb1)
     | (refine wpList_store_blk rfl _ _ _ rfl w.heap.size rfl (rsX (.bad 4 6 0) (.slice none 0 0) (.slice none 0 0)) _ rfl 31 hq rfl infoRs (rsX_one _ _ _ _ _ _ _) ?_;intro w2 hb2 hk2))
   refine ret_blk rfl w.heap.size _ _ rfl hb2 Tryz.underlying31 infoRs rfl ⟨rfl,?_⟩
   exact ((((Kept.refl (· < w.heap.size) w).alloc _).trans ((Kept.ofBelow hb1).mono fun k h _=>by simp;omega)).trans (hk2.mono fun k h _=>Nat.ne_of_lt h)).below (Nat.le_refl _)
 · show Calls _ _ _ _ (SpBad w (.bad 4 1 0))
   go_enter Tryz.func40,Tryz.ntmps40
   go_wp2_with (first
     | (go_at_call 24;refine (connS_any 1 _).mono ?_;rintro e w1 ⟨rfl,hb1⟩;have hq:=blk_below (blk_new w _) hb1)
     | (refine wpList_store_blk rfl _ _ _ rfl w.heap.size rfl (rsX (.bad 4 1 0) (.slice none 0 0) (.slice none 0 0)) _ rfl 31 hq rfl infoRs (rsX_one _ _ _ _ _ _ _) ?_;intro w2 hb2 hk2))
   refine ret_blk rfl w.heap.size _ _ rfl hb2 Tryz.underlying31 infoRs rfl ⟨rfl,?_⟩
   exact ((((Kept.refl (· < w.heap.size) w).alloc _).trans ((Kept.ofBelow hb1).mono fun k h _=>by simp;omega)).trans (hk2.mono fun k h _=>Nat.ne_of_lt h)).below (Nat.le_refl _)
 · show Calls _ _ _ _ (SpBad w (.bad 7 0 0))
   go_enter Tryz.func40,Tryz.ntmps40
   go_wp2_with (refine wpList_store_blk rfl _ _ _ rfl w.heap.size rfl (rsX (.bad 7 0 0) (.slice none 0 0) (.slice none 0 0)) _ rfl 31 (blk_new _ _) rfl infoRs (rsX_one _ _ _ _ _ _ _) ?_;intro w1 hb1 hk1)
   exact ret_blk rfl w.heap.size _ _ rfl hb1 Tryz.underlying31 infoRs rfl ⟨rfl,below_new' hk1⟩
end Go.Proofs.YtfdlbjibninakaaGreatDoor

namespace Go.Proofs.YtfdlbjibninakaaGreatDoor
set_option maxRecDepth 100000
set_option maxHeartbeats 4000000
open Go.RowKit
theorem ofInt_64 (a:Nat) (ha:a<18446744073709551616):(BitVec.ofInt 64 (a:Int)).toNat=a:=by
 rw [BitVec.ofInt_natCast,BitVec.toNat_ofNat];exact Nat.mod_eq_of_lt (by omega)
theorem i64_wrap_nat (n:Nat) (h:n<4294967296):IntKind.i64.wrap (n:Int)=n:=IntWalk.i64_in _ ⟨by omega,by omega⟩
theorem i64_and_nat (a b:Nat) (ha:a<4294967296) (hb:b<4294967296):bits .and .i64 (a:Int) (b:Int)=((a &&& b:Nat):Int):=by
 have hx:a &&& b<2 ^ 32:=Nat.and_lt_two_pow _ (by omega)
 show IntKind.i64.wrap ((BitVec.ofInt 64 (a:Int) &&& BitVec.ofInt 64 (b:Int)).toNat:Int)=_
 rw [BitVec.toNat_and,ofInt_64 a (by omega),ofInt_64 b (by omega),i64_wrap_nat _ (by omega)]
theorem i64_bit (s:Int) (i:Nat) (h0:0≤s) (h1:s<4294967296) (hi:2 ^ i<4294967296):bits .and .i64 s ((2 ^ i:Nat):Int)=s / ((2 ^ i:Nat):Int)%2*((2 ^ i:Nat):Int):=by
 obtain ⟨n,rfl⟩:=Int.eq_ofNat_of_zero_le h0
 rw [i64_and_nat n (2 ^ i) (by omega) hi,and_bit]
 simp only [Int.natCast_mul,Int.natCast_emod,Int.natCast_ediv]
 rfl
theorem i64_and1 (s:Int) (h0:0≤s) (h1:s<256):bits .and .i64 s 1=if bitOf s 1 then 1 else 0:=by
 have e:bits .and .i64 s 1=s / 1%2*1:=i64_bit s 0 h0 (by omega) (by decide)
 rw [e];unfold bitOf;split<;>simp_all<;>omega
theorem i64_and4 (s:Int) (h0:0≤s) (h1:s<256):bits .and .i64 s 4=if bitOf s 4 then 4 else 0:=by
 have e:bits .and .i64 s 4=s / 4%2*4:=i64_bit s 2 h0 (by omega) (by decide)
 rw [e];unfold bitOf;split<;>simp_all<;>omega
theorem i64_and8 (s:Int) (h0:0≤s) (h1:s<256):bits .and .i64 s 8=if bitOf s 8 then 8 else 0:=by
 have e:bits .and .i64 s 8=s / 8%2*8:=i64_bit s 3 h0 (by omega) (by decide)
 rw [e];unfold bitOf;split<;>simp_all<;>omega
theorem i64_and32 (s:Int) (h0:0≤s) (h1:s<256):bits .and .i64 s 32=if bitOf s 32 then 32 else 0:=by
 have e:bits .and .i64 s 32=s / 32%2*32:=i64_bit s 5 h0 (by omega) (by decide)
 rw [e];unfold bitOf;split<;>simp_all<;>omega
theorem numOf_40 (b:List Int) (h:4≤b.length):numOf (b.take 4)=n32 b 0:=by
 match b,h with
 | a0::a1::a2::a3::b,_=>simp [numOf,n32,gb];omega
theorem number4 {a:Option Addr} {n c:Nat} {b:List Int} {w:World} (h:RdB w (.slice a n c) b) (hb:Bs b) (hn:4≤n):Calls Tryz.prog 38 #[.slice a 4 c] w fun e w'=>e = .returned (.int .u32 (n32 b 0))∧w=w':=by
 have hnb:b.length=n:=by obtain ⟨_,_,e,-⟩:=h;cases e;rfl
 have hl:(b.take 4).length=4:=by simp;omega
 have:=number_any a c (b.take 4) w (by rw [hl];exact h.take (m:=4) (by omega)) (hb.take 4) (by omega)
 rw [hl,numOf_40 b (by omega)] at this
 exact this
def UnpEnd (w0 w:World) (o:Option (List Int)) (e:Ending) (w':World):Prop:=
 (o=none∧e = .returned (.tuple #[.slice none 0 0,.bool false]) ∨ ∃d dv,o=some d∧e = .returned (.tuple #[dv,.bool true])∧RdB w0 dv d)∧Below w.heap.size w w'
theorem below_al (w:World) (o:Obj):Below w.heap.size w (w.alloc o):=((Kept.refl (· < w.heap.size) w).alloc o).below (Nat.le_refl _)
theorem wpList_store_cell {P:Program} {ops:Array Oper} {rest:List Oper} {o:Oper} {a:Act} {Q:Exit→Act→World→Prop} {w:World} (hgd:o.guard=none) (T:TypeId) (x v:Operand) (ho:o.op = .store T x v) (g off:Nat) (hx:a.eval x = .pointer (some ⟨g,off,none⟩)) (u:Value) (hv:a.eval v=u) (h1:u.oneCell'=true)
   (hi:(P.info? T).map (·.size)=some 1) (cs:Array Value) (t:TypeId) (hg:w.heap[g]? = some (.cells cs t (0,0))) (hlt:off<cs.size)
   (h:∀w',w'.heap[g]? = some (.cells (cs.setIfInBounds off u) t (0,0))→Kept (· ≠ g) w w'→wpList P ops Q rest (a.put o.dst undef) w'):wpList P ops Q (o::rest) a w:=by
 refine wpList_plain hgd fun K hK => ?_
 obtain ⟨i,hi,hs⟩:=Option.map_eq_some_iff.1 hi
 have hc:u.cells = #[u]:=by cases u<;>first|rfl|(simp [Value.oneCell'] at h1)
 have hst:=run_storeCells_at P g off t [u] 0 cs w hg (by simp;omega) (by simpa using h1)
 simp only [Nat.add_zero] at hst
 unfold Oper.wp execOp
 simp [ho,hx,hv,Instr.storeAt,Instr.sureAddr,storeVar,hc,sizeOf,typeInfo,hi,hs,hst]
 refine hK _ _ (h _ ?_ ⟨rfl,rfl,rfl,by simp,fun k hk _=>setRow_other w g k _ hk⟩)
 have:=setRow_heap w g cs (cs.toList.take off ++ [u]++cs.toList.drop (off+1)).toArray t (0,0) hg
 have e:(cs.toList.take off ++ [u]++cs.toList.drop (off+1)).toArray=cs.setIfInBounds off u:=by
   apply Array.toList_inj.1
   simp [List.set_eq_take_append_cons_drop,hlt]
 rw [e] at this
 have e':(cs.toList.take off++u::cs.toList.drop (off+1)).toArray=cs.setIfInBounds off u:=by rw [←e];simp
 rw [e']
 exact this
theorem infoU32:(Tryz.prog.info? 26).map (·.size)=some 1:=by kernel_rfl
theorem infoSl:(Tryz.prog.info? 22).map (·.size)=some 1:=by kernel_rfl
theorem frX_data (x:Fr) (dv sv v:Value):(frX x dv sv).setIfInBounds 4 v=frX x v sv:=rfl
theorem frX_pr (x:Fr) (dv sv:Value) (v:Int):(frX x dv sv).setIfInBounds 5 (.int .u32 v)=frX { x with pr:=v } dv sv:=rfl
theorem frX_la (x:Fr) (dv sv:Value) (v:Int):(frX x dv sv).setIfInBounds 6 (.int .u32 v)=frX { x with la:=v } dv sv:=rfl
theorem frX_co (x:Fr) (dv sv:Value) (v:Int):(frX x dv sv).setIfInBounds 7 (.int .u32 v)=frX { x with co:=v } dv sv:=rfl
theorem frX_inc (x:Fr) (dv sv:Value) (v:Int):(frX x dv sv).setIfInBounds 8 (.int .u32 v)=frX { x with inc:=v } dv sv:=rfl
theorem frX_hp (x:Fr) (dv sv:Value) (v:Bool):(frX x dv sv).setIfInBounds 9 (.bool v)=frX { x with hp:=v } dv sv:=rfl
theorem frX_set (x:Fr) (dv sv v:Value):(frX x dv sv).setIfInBounds 13 v=frX x dv v:=rfl
theorem infoRsC (f c s:Int) (x:Fr) (dv sv:Value):(Tryz.prog.info? 31).map (·.size)=some (rsC f c s (frX x dv sv)).size:=infoRs
theorem rsC_one (f c s:Int) (x:Fr) (a b:Option Addr) (n k m d:Nat):∀u∈(rsC f c s (frX x (.slice a n k) (.slice b m d))).toList,u.oneCell'=true:=rsX_one ⟨f,c,s,x⟩ a b n k m d
theorem rsC_size (f c s:Int) (x:Fr) (dv sv:Value):(rsC f c s (frX x dv sv)).size=17:=rfl
def rsZ:Array Value:=#[.int .i64 0,.int .u32 0,.int .u32 0,.int .i64 0,.int .i64 0,.int .u32 0,.int .i64 0,.slice none 0 0,.int .u32 0,.int .u32 0,.int .u32 0,.int .u32 0,.bool false,.bool false,.int .u32 0,.int .i64 0,.slice none 0 0]
theorem frX_size14 (x:Fr) (dv sv:Value):(frX x dv sv).size=14:=rfl
theorem frX_lt {n:Nat} {x:Fr} {dv sv:Value} (h:n<14):n<(frX x dv sv).size:=h
theorem infoFsX (x:Fr) (dv sv:Value):(Tryz.prog.info? 29).map (·.size)=some (frX x dv sv).size:=infoFs
theorem run_build_rs14 (c0 c1 c2 c3 c4 c5 c6 c7 c8 c9 c10 c11 c12 c13:Value) (w:World):(Instr.build 31 #[(3,.agg #[c0,c1,c2,c3,c4,c5,c6,c7,c8,c9,c10,c11,c12,c13])]).run Tryz.prog w = .ok (.agg #[.int .i64 0,.int .u32 0,.int .u32 0,c0,c1,c2,c3,c4,c5,c6,c7,c8,c9,c10,c11,c12,c13]) w:=by kernel_rfl
theorem run_build_rs (fr:Array Value) (hs:fr.size=14) (w:World):(Instr.build 31 #[(3,.agg fr)]).run Tryz.prog w = .ok (.agg (rsC 0 0 0 fr)) w:=by
 obtain ⟨l⟩:=fr
 match l,hs with
 | [c0,c1,c2,c3,c4,c5,c6,c7,c8,c9,c10,c11,c12,c13],_=>exact run_build_rs14 c0 c1 c2 c3 c4 c5 c6 c7 c8 c9 c10 c11 c12 c13 w
theorem wpList_build_rs {ops:Array Oper} {rest:List Oper} {o:Oper} {a:Act} {Q:Exit→Act→World→Prop} {w:World} (hgd:o.guard=none) (x:Operand) (ho:o.op = .build 31 #[(3,x)]) (fr:Array Value) (hx:a.eval x = .agg fr) (hs:fr.size=14)
   (h:wpList Tryz.prog ops Q rest (a.put o.dst (.agg (rsC 0 0 0 fr))) w):wpList Tryz.prog ops Q (o::rest) a w:=by
 refine wpList_plain hgd fun K' hK' => ?_
 unfold Oper.wp
 have:=run_build_rs fr hs w
 simp [execOp,ho,hx,this,Result.andThen]
 exact hK' _ _ h
theorem unpadded_any {w0 w:World} (h:Hd) (x:Fr) (dv sv:Value) {a:Option Addr} {n c:Nat} {b:List Int} (hx:x.fl=h.fl) (hf0:0≤h.fl) (hf1:h.fl<256) (hr:RdB w0 (.slice a n c) b) (hB:Below w0.heap.size w0 w) (hb:Bs b) :
   Calls Tryz.prog 41 #[.agg (frX x dv sv),.slice a n c] w (UnpEnd w0 w (Pl.sUnpad h b)):=by
 have hand:=i64_and8 h.fl hf0 hf1
 obtain ⟨hnb,hnc,hcm⟩:=hr.len
 cases h8:bitOf h.fl 8 with
 | false =>
   have e:Pl.sUnpad h b=some b:=by unfold Pl.sUnpad;rw [h8];rfl
   rw [e]
   rw [h8] at hand
   unfold frX frameC
   rw [hx]
   generalize h.fl=fl at *
   clear hx
   go_enter Tryz.func41,Tryz.ntmps41
   go_wp2
   go_ret2
   exact ⟨.inr ⟨_,_,rfl,rfl,hr⟩,below_al _ _⟩
 | true =>
   rw [h8] at hand
   cases b with
   | nil =>
     have e:Pl.sUnpad h []=none:=by unfold Pl.sUnpad;rw [h8];rfl
     rw [e]
     have hn:n=0:=by simp at hnb;omega
     subst hn
     unfold frX frameC
     rw [hx]
     generalize h.fl=fl at *
     clear hx hnb hnc hb hr
     go_enter Tryz.func41,Tryz.ntmps41
     go_wp2
     go_ret2
     exact ⟨.inl ⟨rfl,rfl⟩,below_al _ _⟩
   | cons p b =>
     have hp:=hb p (List.mem_cons_self ..)
     have hr':=hr
     obtain ⟨_,_,e,-,-,h3⟩:=hr'
     cases e
     obtain ⟨q,o,rfl,hc0⟩:=h3 0 p rfl
     have hB1:Below w0.heap.size w0 (w.alloc (.cells (frX x dv sv) 29)):=hB.trans ((below_al w _).mono hB.size)
     have c0:(w.alloc (.cells (frX x dv sv) 29)).cell? ⟨q,o,none⟩=some (.int .u8 p):=cell_below hc0 hB1
     clear h3
     simp only [List.length_cons] at hnb hnc
     by_cases hlt:(b.length:Int)<p
     · have e:Pl.sUnpad h (p::b)=none:=by unfold Pl.sUnpad;rw [h8];simp only [if_true];rw [if_pos hlt]
       rw [e]
       have hge:((b.length:Int)+1)≤p:=by omega
       unfold frX frameC at c0 ⊢
       rw [hx] at c0 ⊢
       rw [List.length_cons]
       have HR:=Lib.hid hr
       generalize h.fl=fl at *
       generalize b.length=m at *
       clear hx hr hc0 hnb
       go_enter Tryz.func41,Tryz.ntmps41
       go_wp2
       go_ret2
       exact ⟨.inl ⟨rfl,rfl⟩,below_al _ _⟩
     · have e:Pl.sUnpad h (p::b)=some (b.take (b.length-p.toNat)):=by unfold Pl.sUnpad;rw [h8];simp only [if_true];rw [if_neg hlt]
       rw [e]
       have hs:=slice_mid hr E5.sl E5s (n:=1) (m:=b.length+1-p.toNat) (by omega) (by simp)
       obtain ⟨sa,sc,hsl,hrd,-⟩:=hs
       have em:((b.length+1-p.toNat:Nat):Int)=((b.length:Int)+1)-p:=by omega
       rw [em] at hsl
       rw [List.length_cons] at hsl ⊢
       have hsl':∀w,(Instr.slice 22 (.slice (some ⟨q,o,none⟩) (b.length+1) c) (some (.int .i64 1)) (some (.int .i64 ((b.length:Int)+1-p))) none).run Tryz.prog w = .ok (.slice sa (b.length+1-p.toNat-1) sc) w:=hsl
       have ed:((p::b).take (b.length+1-p.toNat)).drop 1=b.take (b.length-p.toNat):=by
         rw [show b.length+1-p.toNat=(b.length-p.toNat)+1 by omega];rfl
       rw [ed] at hrd
       have hlt':¬((b.length:Int)+1)≤p:=by omega
       unfold frX frameC at c0 ⊢
       rw [hx] at c0 ⊢
       have HR:=Lib.hid hr
       have HRD:=Lib.hid hrd
       generalize h.fl=fl at *
       generalize b.length=m at *
       clear hx hr hc0 hnb hrd em ed hsl
       go_enter Tryz.func41,Tryz.ntmps41
       go_wp2
       go_ret2
       exact ⟨.inr ⟨_,_,rfl,rfl,HRD.out⟩,below_al _ _⟩
theorem dependency_any {w:World} {p:Nat} {x:Fr} {dv sv:Value} {a:Option Addr} {n c:Nat} {b:List Int} (hp:w.heap[p]? = some (.cells (frX x dv sv) 29 (0,0))) (hr:RdB w (.slice a n c) b) (hb:Bs b) (hn:5≤n) :
   Calls Tryz.prog 43 #[.pointer (some ⟨p,0,none⟩),.slice a n c] w fun e w'=>e = .returned (.tuple #[]) ∧
     w'.heap[p]? = some (.cells (frX { x with ex:=decide (2147483648≤n32 b 0),dep:=n31 b 0,wt:=gb b 4 } dv sv) 29 (0,0))∧Kept (· ≠ p) w w':=by
 have h4:=number4 hr hb (by omega)
 have hr':=hr
 obtain ⟨_,_,e,hc1,hc2,h3⟩:=hr'
 cases e
 obtain ⟨q,o,rfl,hx4⟩:=h3 4 _ (List.getElem?_eq_getElem (by omega))
 have g4:b[4]=gb b 4:=by
   show b[4]=b.getD 4 0
   rw [List.getD_eq_getElem?_getD,List.getElem?_eq_getElem];rfl
 rw [g4] at hx4
 have hbd:=hb.at 4
 have hb32:=Pl.n32_bd (b:=b) hb 0
 have hand:bits .and .u32 (n32 b 0) 2147483647=n31 b 0:=u32_low _ hb32.1 hb32.2
 have hdec:decide (2147483648≤n32 b 0)=decide (2147483647<n32 b 0):=decide_eq_decide.2 ⟨fun h=>by omega,fun h=>by omega⟩
 rw [hdec]
 have HD:=Lib.hid hdec
 have HR:=Lib.hid hr
 unfold maxLen at hc2
 clear h3 hr g4 hb hdec
 have f10:=blk_free hp 10
 have c10:w.cell? ⟨p,10,none⟩=some (.bool x.ex):=blk_cell hp 10
 have c11:w.cell? ⟨p,11,none⟩=some (.int .u32 x.dep):=blk_cell hp 11
 have c12:w.cell? ⟨p,12,none⟩=some (.int .i64 x.wt):=blk_cell hp 12
 have f11:=blk_free hp 11
 have f12:=blk_free hp 12
 have HP:=Lib.hid hp
 clear hp
 generalize gb b 4=y at *
 generalize n31 b 0=d at *
 generalize n32 b 0=v at *
 generalize b.length=len at *
 go_enter Tryz.func43,Tryz.ntmps43
 go_wp2_with (go_at_call 38;refine h4.mono ?_;rintro e w1 ⟨rfl,rfl⟩)
 go_end0
 refine ⟨rfl,blk_set (blk_set (blk_set HP.out 10 _) 11 _) 12 _,?_⟩
 exact (((Kept.refl (· ≠ p) w).setCell (fun h=>absurd rfl h) _).setCell (fun h=>absurd rfl h) _).setCell (fun h=>absurd rfl h) _
end Go.Proofs.YtfdlbjibninakaaGreatDoor

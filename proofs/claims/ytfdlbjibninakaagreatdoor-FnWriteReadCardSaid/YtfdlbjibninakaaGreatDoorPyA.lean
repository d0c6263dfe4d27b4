/- The reference's reading: the payload of a frame (1: faults). -/
import Derived.Test.YtfdlbjibninakaaGreatDoorBase
import Derived.Test.YtfdlbjibninakaaGreatDoorSp4
import Derived.Maps.OwnOps
import Derived.Maps.OwnSet
import Derived.Outline
import Derived.Deep.CutRange
set_option linter.unusedVariables false
set_option linter.unusedSimpArgs false
namespace Go.Proofs.YtfdlbjibninakaaGreatDoor
open Go.RowKit Go.Maps
theorem wpList_insert_own {H:Type} {P:Program} (w:World) {ops:Array Oper} {rest:List Oper} {o:Oper} {a:Act} {Q:Exit→Act→World→Prop}
   (hg:o.guard=none) (m x v:Operand) (t:TypeId) (hop:o.op=Op.insert t m x v)
   (k e:TypeId) (K:Keyed P k) (ht:P.underlying t=some (.map k e)) (R:Value→Option (DataW H × List MemPlace)) (b n:Nat) (D:DataW H)
   (hm:a.eval m = .map (some b)) (hown:w.ownsMap P k R b n D) (hn:n<maxLen) (key val:Value) (kl:Lit) (hx:a.eval x=key) (hv:a.eval v=val) (hkey:keyOf P k key=some kl)
   (d:DataW H) (ps:List MemPlace) (hval:R val=some (d,ps))
   (hK:∀w',w'.ownsMap P k R b (n+1) (D.put kl d)→w.grownBy w' (some b)→wpList P ops Q rest (a.put o.dst undef) w') :
   wpList P ops Q (o::rest) a w:=by
 refine wpList_plain hg fun K' hK' => ?_
 obtain ⟨w',hrun,r1,r2⟩:=hown.update K ht hn hkey hval
 unfold Oper.wp
 simp [execOp,hop,hm,hx,hv,hrun,Result.andThen]
 exact hK' _ _ (hK w' r1 r2)
end Go.Proofs.YtfdlbjibninakaaGreatDoor

namespace Go.Proofs.YtfdlbjibninakaaGreatDoor
set_option maxRecDepth 100000
set_option maxHeartbeats 2000000
open Go.RowKit Go.Maps
theorem keyI:Keyed Tryz.prog 3:=int_keyed Tryz.underlying3
theorem keyAt {k:Int} (h:(Lit.int .i64 k).wf=true):keyOf Tryz.prog 3 (.int .i64 k)=some (.int .i64 k):=keyOf_int_mk Tryz.underlying3 h
theorem elmAt {k:Int} (h:(Lit.int .i64 k).wf=true):(plainElem (H:=Unit) Tryz.prog 3) (.int .i64 k)=some (.lit (.int .i64 k),[]):=plainElem_int Tryz.underlying3 h
theorem zeroI (w:World):(zeroValue 3).run Tryz.prog w = .ok (.int .i64 0) w:=by kernel_rfl
structure PyS (w:World) (x:Fr) (wr:World):Prop where
 F:wr.heap[w.heap.size]? = some (.cells (frX x (.slice none 0 0) (.slice none 0 0)) 29 (0,0))
 R:wr.heap[w.heap.size+1]? = some (.cells rsZ 31 (0,0))
 B:Below w.heap.size w wr
 lt:w.heap.size+1<wr.heap.size
theorem PyS.grown {w wr w':World} {x:Fr} {b:Nat} (h:PyS w x wr) (hb:w.heap.size+1<b) (hg:wr.grownBy w' (some b)):PyS w x w':=
 ⟨blk_grown h.F hg (by simp;omega),blk_grown h.R hg (by simp;omega),h.B.grown hg h.B.size (fun k e=>by cases e;omega),by have:=hg.size;have:=h.lt;omega⟩
theorem PyS.alloc {w wr:World} {x:Fr} (h:PyS w x wr) (o:Obj):PyS w x (wr.alloc o):=
 ⟨blk_alloc h.F,blk_alloc h.R,h.B.alloc h.B.size _,by have:=h.lt;simp;omega⟩
theorem PyS.below {w wr w':World} {x:Fr} (h:PyS w x wr) (hb:Below wr.heap.size wr w'):PyS w x w':=
 ⟨blk_below h.F hb,blk_below h.R hb,Below.step' h.B hb,by have:=hb.size;have:=h.lt;omega⟩
structure PyT (w:World) (fr:Array Value) (wr:World):Prop where
 F:wr.heap[w.heap.size]? = some (.cells fr 29 (0,0))
 R:wr.heap[w.heap.size+1]? = some (.cells rsZ 31 (0,0))
 B:Below w.heap.size w wr
theorem PyS.put {w wr w':World} {x:Fr} {fr:Array Value} (h:PyS w x wr) (hF:w'.heap[w.heap.size]? = some (.cells fr 29 (0,0))) (k:Kept (· ≠ w.heap.size) wr w'):PyT w fr w':=
 ⟨hF,k.at (Nat.succ_ne_self _) h.R,h.B.trans ((k.mono fun j hj _=>Nat.ne_of_lt hj).below h.B.size)⟩
theorem PyT.put {w wr w':World} {fr0 fr:Array Value} (h:PyT w fr0 wr) (hF:w'.heap[w.heap.size]? = some (.cells fr 29 (0,0))) (k:Kept (· ≠ w.heap.size) wr w'):PyT w fr w':=
 ⟨hF,k.at (Nat.succ_ne_self _) h.R,h.B.trans ((k.mono fun j hj _=>Nat.ne_of_lt hj).below h.B.size)⟩
theorem PyT.below {w wr w':World} {fr:Array Value} (h:PyT w fr wr) (hb:Below wr.heap.size wr w'):PyT w fr w':=⟨blk_below h.F hb,blk_below h.R hb,Below.step' h.B hb⟩
def pyF (t f s l:Int):Array Value:=#[.int .i64 t,.int .i64 f,.int .u32 s,.int .i64 l,.slice none 0 0,.int .u32 0,.int .u32 0,.int .u32 0,.int .u32 0,.bool false,.bool false,.int .u32 0,.int .i64 0,.slice none 0 0]
def pyW (w:World) (t f s l:Int):World:=((w.alloc (.cells (pyF t f s l) 29)).alloc (.cells rsZ 31)).alloc (.map #[] 0)
theorem pyS0 (w:World) (t f s l:Int):PyS w (Fr.of ⟨t,f,l,s⟩) (pyW w t f s l):=PyS.alloc ⟨blk_alloc (blk_new w _),blk_at _ _ (by simp),(((Kept.refl (· < w.heap.size) w).alloc _).alloc _).below (Nat.le_refl _),by simp⟩ _
theorem pyO0 (w:World) (t f s l:Int):(pyW w t f s l).ownsMap Tryz.prog 3 (plainElem (H:=Unit) Tryz.prog 3) (w.heap.size+1+1) 0 (.map []):=by
 have:=World.ownsMap_made (H:=Unit) ((w.alloc (.cells (pyF t f s l) 29)).alloc (.cells rsZ 31)) Tryz.prog 3 (plainElem (H:=Unit) Tryz.prog 3)
 unfold pyW
 simpa using this
theorem insI {w:World} {ops:Array Oper} {rest:List Oper} {o:Oper} {a:Act} {Q:Exit→Act→World→Prop} {m x v:Operand} {D:DataW Unit} (hg:o.guard=none) (hop:o.op=Op.insert 105 m x v) (b n:Nat) (k e:Int)
   (hm:a.eval m = .map (some b)) (hx:a.eval x = .int .i64 k) (hv:a.eval v = .int .i64 e) (hown:w.ownsMap Tryz.prog 3 (plainElem (H:=Unit) Tryz.prog 3) b n D) (hn:Nat.ble n 9=true) (hk:(Lit.int .i64 k).wf=true) (he:(Lit.int .i64 e).wf=true)
   (hK:∀w',w'.ownsMap Tryz.prog 3 (plainElem (H:=Unit) Tryz.prog 3) b (n+1) (D.put (.int .i64 k) (.lit (.int .i64 e)))→w.grownBy w' (some b)→wpList Tryz.prog ops Q rest (a.put o.dst undef) w'):wpList Tryz.prog ops Q (o::rest) a w:=
 wpList_insert_own _ hg _ _ _ 105 hop 3 3 keyI Tryz.underlying105 (plainElem (H:=Unit) Tryz.prog 3) b n D hm hown (by have:=Nat.le_of_ble_eq_true hn;unfold maxLen;omega) _ _ _ hx hv (keyAt hk) _ [] (elmAt he) hK
theorem lokI {w:World} {ops:Array Oper} {rest:List Oper} {o:Oper} {a:Act} {Q:Exit→Act→World→Prop} {m x:Operand} {D:DataW Unit} {k:Int} (hg:o.guard=none) (hop:o.op=Op.lookup 105 m x false) (b n:Nat)
   (hm:a.eval m = .map (some b)) (hx:a.eval x = .int .i64 k) (hown:w.ownsMap Tryz.prog 3 (plainElem (H:=Unit) Tryz.prog 3) b n D) (hk:(Lit.int .i64 k).wf=true)
   (hK:∀c:Int,D.atKey (.int .i64 k) (.lit (.int .i64 0)) = .lit (.int .i64 c)→(Lit.int .i64 c).wf=true→wpList Tryz.prog ops Q rest (a.put o.dst (.int .i64 c)) w):wpList Tryz.prog ops Q (o::rest) a w:=
 wpList_lookup_own_int _ hg _ _ 105 hop 3 3 .i64 keyI Tryz.underlying105 Tryz.underlying3 (zeroI _) b n D hm hown _ _ hx (keyAt hk) hK
theorem atI {D:DataW Unit} {k s:Int} (v:Int) (h:DataW.atKey D (.int .i64 k) (.lit (.int .i64 0)) = .lit (.int .i64 s)) (e:DataW.atKey D (.int .i64 k) (.lit (.int .i64 0)) = .lit (.int .i64 v):=by exact rfl):s=v:=by rw [e] at h;cases h;rfl
theorem pay2_any0 {w0 w:World} (fl ln:Int) {a:Option Addr} {n c:Nat} {b:List Int} (hf0:0≤fl) (hf1:fl<256) (hr:RdB w0 (.slice a n c) b) (hB:Below w0.heap.size w0 w) (hb:Bs b) (hn:n≠5) :
   Calls Tryz.prog 23 #[.agg (frX (Fr.of ⟨2,fl,ln,0⟩) (.slice none 0 0) (.slice none 0 0)),.slice a n c] w (SpEnd w0 w (.bad 7 0 0)):=by
 obtain ⟨hnb,hnc,hcm⟩:=hr.len
 have hn1:((n:Int) != 5)=true:=by simp;omega
 have S0:=Lib.hid (pyS0 w 2 fl 0 ln)
 have O0:=Lib.hid (pyO0 w 2 fl 0 ln)
 have hmm:=@run_makeMap Tryz.prog
 show Calls Tryz.prog 23 #[.agg (pyF 2 fl 0 ln),.slice a n c] w _
 unfold pyF
 unfold pyW rsZ pyF at S0 O0
 have HRD:=Lib.hid hr
 have HBS:=Lib.hid hb
 have HNB:=Lib.hid hnb
 clear hr hb hnb
 go_enter Tryz.func23,Tryz.ntmps23
 go_wp2_with (first
   | (refine insI rfl rfl (w.heap.size+1+1) 0 2 5 rfl rfl rfl O0.out rfl rfl rfl ?_;intro wa0 owna0 ga0;have Oa0:=Lib.hid owna0;have Sa0:=Lib.hid (S0.out.grown (by omega) ga0);clear owna0 ga0)
   | (refine insI rfl rfl (w.heap.size+1+1) 1 3 4 rfl rfl rfl Oa0.out rfl rfl rfl ?_;intro wa1 owna1 ga1;have Oa1:=Lib.hid owna1;have Sa1:=Lib.hid (Sa0.out.grown (by omega) ga1);clear owna1 ga1)
   | (refine insI rfl rfl (w.heap.size+1+1) 2 6 8 rfl rfl rfl Oa1.out rfl rfl rfl ?_;intro wa2 owna2 ga2;have Oa2:=Lib.hid owna2;have Sa2:=Lib.hid (Sa1.out.grown (by omega) ga2);clear owna2 ga2)
   | (refine insI rfl rfl (w.heap.size+1+1) 3 8 4 rfl rfl rfl Oa2.out rfl rfl rfl ?_;intro wa3 owna3 ga3;have Oa3:=Lib.hid owna3;have Sa3:=Lib.hid (Sa2.out.grown (by omega) ga3);clear owna3 ga3;have c0:wa3.cell? ⟨w.heap.size,0,none⟩=some (.int .i64 2):=blk_cell Sa3.out.F 0;have c2:wa3.cell? ⟨w.heap.size,2,none⟩=some (.int .u32 0):=blk_cell Sa3.out.F 2)
   | (refine lokI rfl rfl (w.heap.size+1+1) 4 rfl rfl Oa3.out rfl ?_;intro sza hata _;obtain rfl:sza=5:=(atI 5 hata);clear hata)
   | (refine wpList_store_blk rfl 31 _ _ rfl (w.heap.size+1) rfl (rsX (.bad 7 0 0) (.slice none 0 0) (.slice none 0 0)) rsZ rfl 31 Sa3.out.R (rsX_size _ _ _) (infoRX' _ _ _) (rsX_one _ _ _ _ _ _ _) ?_;intro w7 hb7 k7))
 exact ret_blk rfl (w.heap.size+1) _ _ rfl hb7 Tryz.underlying31 (infoRX' _ _ _) rfl (SpEnd.nil (sp_fin Sa3.out.B k7))
theorem pay2_any1 {w0 w:World} (fl st ln:Int) {a:Option Addr} {n c:Nat} {b:List Int} (hf0:0≤fl) (hf1:fl<256) (hr:RdB w0 (.slice a n c) b) (hB:Below w0.heap.size w0 w) (hb:Bs b) (hs:st≠0) (hn:n≠5) :
   Calls Tryz.prog 23 #[.agg (frX (Fr.of ⟨2,fl,ln,st⟩) (.slice none 0 0) (.slice none 0 0)),.slice a n c] w (SpEnd w0 w (.bad 7 0 0)):=by
 obtain ⟨hnb,hnc,hcm⟩:=hr.len
 have hs1:(st != 0)=true:=by simpa using hs
 have hs2:(st==0)=false:=beq_false_of_ne hs
 have hn1:((n:Int) != 5)=true:=by simp;omega
 have S0:=Lib.hid (pyS0 w 2 fl st ln)
 have O0:=Lib.hid (pyO0 w 2 fl st ln)
 have hmm:=@run_makeMap Tryz.prog
 show Calls Tryz.prog 23 #[.agg (pyF 2 fl st ln),.slice a n c] w _
 unfold pyF
 unfold pyW rsZ pyF at S0 O0
 have HRD:=Lib.hid hr
 have HBS:=Lib.hid hb
 have HNB:=Lib.hid hnb
 clear hr hb hnb
 go_enter Tryz.func23,Tryz.ntmps23
 go_wp2_with (first
   | (refine insI rfl rfl (w.heap.size+1+1) 0 2 5 rfl rfl rfl O0.out rfl rfl rfl ?_;intro wa0 owna0 ga0;have Oa0:=Lib.hid owna0;have Sa0:=Lib.hid (S0.out.grown (by omega) ga0);clear owna0 ga0)
   | (refine insI rfl rfl (w.heap.size+1+1) 1 3 4 rfl rfl rfl Oa0.out rfl rfl rfl ?_;intro wa1 owna1 ga1;have Oa1:=Lib.hid owna1;have Sa1:=Lib.hid (Sa0.out.grown (by omega) ga1);clear owna1 ga1)
   | (refine insI rfl rfl (w.heap.size+1+1) 2 6 8 rfl rfl rfl Oa1.out rfl rfl rfl ?_;intro wa2 owna2 ga2;have Oa2:=Lib.hid owna2;have Sa2:=Lib.hid (Sa1.out.grown (by omega) ga2);clear owna2 ga2)
   | (refine insI rfl rfl (w.heap.size+1+1) 3 8 4 rfl rfl rfl Oa2.out rfl rfl rfl ?_;intro wa3 owna3 ga3;have Oa3:=Lib.hid owna3;have Sa3:=Lib.hid (Sa2.out.grown (by omega) ga3);clear owna3 ga3;have c0:wa3.cell? ⟨w.heap.size,0,none⟩=some (.int .i64 2):=blk_cell Sa3.out.F 0;have c2:wa3.cell? ⟨w.heap.size,2,none⟩=some (.int .u32 st):=blk_cell Sa3.out.F 2)
   | (refine lokI rfl rfl (w.heap.size+1+1) 4 rfl rfl Oa3.out rfl ?_;intro sza hata _;obtain rfl:sza=5:=(atI 5 hata);clear hata)
   | (refine wpList_store_blk rfl 31 _ _ rfl (w.heap.size+1) rfl (rsX (.bad 7 0 0) (.slice none 0 0) (.slice none 0 0)) rsZ rfl 31 Sa3.out.R (rsX_size _ _ _) (infoRX' _ _ _) (rsX_one _ _ _ _ _ _ _) ?_;intro w7 hb7 k7))
 exact ret_blk rfl (w.heap.size+1) _ _ rfl hb7 Tryz.underlying31 (infoRX' _ _ _) rfl (SpEnd.nil (sp_fin Sa3.out.B k7))
theorem pay2_zero {w0 w:World} (fl ln:Int) {a:Option Addr} {n c:Nat} {b:List Int} (hf0:0≤fl) (hf1:fl<256) (hr:RdB w0 (.slice a n c) b) (hB:Below w0.heap.size w0 w) (hb:Bs b) (hn:n=5) :
   Calls Tryz.prog 23 #[.agg (frX (Fr.of ⟨2,fl,ln,0⟩) (.slice none 0 0) (.slice none 0 0)),.slice a n c] w (SpEnd w0 w (Pl.eitherR true false)):=by
 obtain ⟨hnb,hnc,hcm⟩:=hr.len
 have hn1:((n:Int) != 5)=false:=by simp;omega
 clear hn
 have S0:=Lib.hid (pyS0 w 2 fl 0 ln)
 have O0:=Lib.hid (pyO0 w 2 fl 0 ln)
 have hmm:=@run_makeMap Tryz.prog
 show Calls Tryz.prog 23 #[.agg (pyF 2 fl 0 ln),.slice a n c] w _
 unfold pyF
 unfold pyW rsZ pyF at S0 O0
 have HRD:=Lib.hid hr
 have HBS:=Lib.hid hb
 have HNB:=Lib.hid hnb
 clear hr hb hnb
 go_enter Tryz.func23,Tryz.ntmps23
 go_wp2_with (first
   | (refine insI rfl rfl (w.heap.size+1+1) 0 2 5 rfl rfl rfl O0.out rfl rfl rfl ?_;intro wa0 owna0 ga0;have Oa0:=Lib.hid owna0;have Sa0:=Lib.hid (S0.out.grown (by omega) ga0);clear owna0 ga0)
   | (refine insI rfl rfl (w.heap.size+1+1) 1 3 4 rfl rfl rfl Oa0.out rfl rfl rfl ?_;intro wa1 owna1 ga1;have Oa1:=Lib.hid owna1;have Sa1:=Lib.hid (Sa0.out.grown (by omega) ga1);clear owna1 ga1)
   | (refine insI rfl rfl (w.heap.size+1+1) 2 6 8 rfl rfl rfl Oa1.out rfl rfl rfl ?_;intro wa2 owna2 ga2;have Oa2:=Lib.hid owna2;have Sa2:=Lib.hid (Sa1.out.grown (by omega) ga2);clear owna2 ga2)
   | (refine insI rfl rfl (w.heap.size+1+1) 3 8 4 rfl rfl rfl Oa2.out rfl rfl rfl ?_;intro wa3 owna3 ga3;have Oa3:=Lib.hid owna3;have Sa3:=Lib.hid (Sa2.out.grown (by omega) ga3);clear owna3 ga3;have c0:wa3.cell? ⟨w.heap.size,0,none⟩=some (.int .i64 2):=blk_cell Sa3.out.F 0;have c2:wa3.cell? ⟨w.heap.size,2,none⟩=some (.int .u32 0):=blk_cell Sa3.out.F 2)
   | (refine lokI rfl rfl (w.heap.size+1+1) 4 rfl rfl Oa3.out rfl ?_;intro sza hata _;obtain rfl:sza=5:=(atI 5 hata);clear hata)
   | (go_at_call 40;refine (eitherS_any true false _).mono ?_;rintro e w5 ⟨rfl,b5⟩;have S5:=Lib.hid (Sa3.out.below b5))
   | (refine wpList_store_blk rfl 31 _ _ rfl (w.heap.size+1) rfl (rsX (Pl.eitherR true false) (.slice none 0 0) (.slice none 0 0)) rsZ rfl 31 S5.out.R (rsX_size _ _ _) (infoRX' _ _ _) (rsX_one _ _ _ _ _ _ _) ?_;intro w7 hb7 k7))
 exact ret_blk rfl (w.heap.size+1) _ _ rfl hb7 Tryz.underlying31 (infoRX' _ _ _) rfl (SpEnd.either _ _ (sp_fin S5.out.B k7))
theorem pay3_tt {w0 w:World} (fl ln:Int) {a:Option Addr} {n c:Nat} {b:List Int} (hf0:0≤fl) (hf1:fl<256) (hr:RdB w0 (.slice a n c) b) (hB:Below w0.heap.size w0 w) (hb:Bs b) (hn:n≠4) :
   Calls Tryz.prog 23 #[.agg (frX (Fr.of ⟨3,fl,ln,0⟩) (.slice none 0 0) (.slice none 0 0)),.slice a n c] w (SpEnd w0 w (Pl.eitherR true true)):=by
 obtain ⟨hnb,hnc,hcm⟩:=hr.len
 have hn1:((n:Int) != 4)=true:=by simp;omega
 have S0:=Lib.hid (pyS0 w 3 fl 0 ln)
 have O0:=Lib.hid (pyO0 w 3 fl 0 ln)
 have hmm:=@run_makeMap Tryz.prog
 show Calls Tryz.prog 23 #[.agg (pyF 3 fl 0 ln),.slice a n c] w _
 unfold pyF
 unfold pyW rsZ pyF at S0 O0
 have HRD:=Lib.hid hr
 have HBS:=Lib.hid hb
 have HNB:=Lib.hid hnb
 clear hr hb hnb
 go_enter Tryz.func23,Tryz.ntmps23
 go_wp2_with (first
   | (refine insI rfl rfl (w.heap.size+1+1) 0 2 5 rfl rfl rfl O0.out rfl rfl rfl ?_;intro wa0 owna0 ga0;have Oa0:=Lib.hid owna0;have Sa0:=Lib.hid (S0.out.grown (by omega) ga0);clear owna0 ga0)
   | (refine insI rfl rfl (w.heap.size+1+1) 1 3 4 rfl rfl rfl Oa0.out rfl rfl rfl ?_;intro wa1 owna1 ga1;have Oa1:=Lib.hid owna1;have Sa1:=Lib.hid (Sa0.out.grown (by omega) ga1);clear owna1 ga1)
   | (refine insI rfl rfl (w.heap.size+1+1) 2 6 8 rfl rfl rfl Oa1.out rfl rfl rfl ?_;intro wa2 owna2 ga2;have Oa2:=Lib.hid owna2;have Sa2:=Lib.hid (Sa1.out.grown (by omega) ga2);clear owna2 ga2)
   | (refine insI rfl rfl (w.heap.size+1+1) 3 8 4 rfl rfl rfl Oa2.out rfl rfl rfl ?_;intro wa3 owna3 ga3;have Oa3:=Lib.hid owna3;have Sa3:=Lib.hid (Sa2.out.grown (by omega) ga3);clear owna3 ga3;have c0:wa3.cell? ⟨w.heap.size,0,none⟩=some (.int .i64 3):=blk_cell Sa3.out.F 0;have c2:wa3.cell? ⟨w.heap.size,2,none⟩=some (.int .u32 0):=blk_cell Sa3.out.F 2)
   | (refine lokI rfl rfl (w.heap.size+1+1) 4 rfl rfl Oa3.out rfl ?_;intro sza hata _;obtain rfl:sza=4:=(atI 4 hata);clear hata)
   | (go_at_call 40;refine (eitherS_any true true _).mono ?_;rintro e w5 ⟨rfl,b5⟩;have S5:=Lib.hid (Sa3.out.below b5))
   | (refine wpList_store_blk rfl 31 _ _ rfl (w.heap.size+1) rfl (rsX (Pl.eitherR true true) (.slice none 0 0) (.slice none 0 0)) rsZ rfl 31 S5.out.R (rsX_size _ _ _) (infoRX' _ _ _) (rsX_one _ _ _ _ _ _ _) ?_;intro w7 hb7 k7))
 exact ret_blk rfl (w.heap.size+1) _ _ rfl hb7 Tryz.underlying31 (infoRX' _ _ _) rfl (SpEnd.either _ _ (sp_fin S5.out.B k7))
theorem pay3_tf {w0 w:World} (fl ln:Int) {a:Option Addr} {n c:Nat} {b:List Int} (hf0:0≤fl) (hf1:fl<256) (hr:RdB w0 (.slice a n c) b) (hB:Below w0.heap.size w0 w) (hb:Bs b) (hn:n=4) :
   Calls Tryz.prog 23 #[.agg (frX (Fr.of ⟨3,fl,ln,0⟩) (.slice none 0 0) (.slice none 0 0)),.slice a n c] w (SpEnd w0 w (Pl.eitherR true false)):=by
 obtain ⟨hnb,hnc,hcm⟩:=hr.len
 have hn1:((n:Int) != 4)=false:=by simp;omega
 clear hn
 have S0:=Lib.hid (pyS0 w 3 fl 0 ln)
 have O0:=Lib.hid (pyO0 w 3 fl 0 ln)
 have hmm:=@run_makeMap Tryz.prog
 show Calls Tryz.prog 23 #[.agg (pyF 3 fl 0 ln),.slice a n c] w _
 unfold pyF
 unfold pyW rsZ pyF at S0 O0
 have HRD:=Lib.hid hr
 have HBS:=Lib.hid hb
 have HNB:=Lib.hid hnb
 clear hr hb hnb
 go_enter Tryz.func23,Tryz.ntmps23
 go_wp2_with (first
   | (refine insI rfl rfl (w.heap.size+1+1) 0 2 5 rfl rfl rfl O0.out rfl rfl rfl ?_;intro wa0 owna0 ga0;have Oa0:=Lib.hid owna0;have Sa0:=Lib.hid (S0.out.grown (by omega) ga0);clear owna0 ga0)
   | (refine insI rfl rfl (w.heap.size+1+1) 1 3 4 rfl rfl rfl Oa0.out rfl rfl rfl ?_;intro wa1 owna1 ga1;have Oa1:=Lib.hid owna1;have Sa1:=Lib.hid (Sa0.out.grown (by omega) ga1);clear owna1 ga1)
   | (refine insI rfl rfl (w.heap.size+1+1) 2 6 8 rfl rfl rfl Oa1.out rfl rfl rfl ?_;intro wa2 owna2 ga2;have Oa2:=Lib.hid owna2;have Sa2:=Lib.hid (Sa1.out.grown (by omega) ga2);clear owna2 ga2)
   | (refine insI rfl rfl (w.heap.size+1+1) 3 8 4 rfl rfl rfl Oa2.out rfl rfl rfl ?_;intro wa3 owna3 ga3;have Oa3:=Lib.hid owna3;have Sa3:=Lib.hid (Sa2.out.grown (by omega) ga3);clear owna3 ga3;have c0:wa3.cell? ⟨w.heap.size,0,none⟩=some (.int .i64 3):=blk_cell Sa3.out.F 0;have c2:wa3.cell? ⟨w.heap.size,2,none⟩=some (.int .u32 0):=blk_cell Sa3.out.F 2)
   | (refine lokI rfl rfl (w.heap.size+1+1) 4 rfl rfl Oa3.out rfl ?_;intro sza hata _;obtain rfl:sza=4:=(atI 4 hata);clear hata)
   | (go_at_call 40;refine (eitherS_any true false _).mono ?_;rintro e w5 ⟨rfl,b5⟩;have S5:=Lib.hid (Sa3.out.below b5))
   | (refine wpList_store_blk rfl 31 _ _ rfl (w.heap.size+1) rfl (rsX (Pl.eitherR true false) (.slice none 0 0) (.slice none 0 0)) rsZ rfl 31 S5.out.R (rsX_size _ _ _) (infoRX' _ _ _) (rsX_one _ _ _ _ _ _ _) ?_;intro w7 hb7 k7))
 exact ret_blk rfl (w.heap.size+1) _ _ rfl hb7 Tryz.underlying31 (infoRX' _ _ _) rfl (SpEnd.either _ _ (sp_fin S5.out.B k7))
theorem pay3_ft {w0 w:World} (fl st ln:Int) {a:Option Addr} {n c:Nat} {b:List Int} (hf0:0≤fl) (hf1:fl<256) (hr:RdB w0 (.slice a n c) b) (hB:Below w0.heap.size w0 w) (hb:Bs b) (hs:st≠0) (hn:n≠4) :
   Calls Tryz.prog 23 #[.agg (frX (Fr.of ⟨3,fl,ln,st⟩) (.slice none 0 0) (.slice none 0 0)),.slice a n c] w (SpEnd w0 w (Pl.eitherR false true)):=by
 obtain ⟨hnb,hnc,hcm⟩:=hr.len
 have hs1:(st != 0)=true:=by simpa using hs
 have hs2:(st==0)=false:=beq_false_of_ne hs
 have hn1:((n:Int) != 4)=true:=by simp;omega
 have S0:=Lib.hid (pyS0 w 3 fl st ln)
 have O0:=Lib.hid (pyO0 w 3 fl st ln)
 have hmm:=@run_makeMap Tryz.prog
 show Calls Tryz.prog 23 #[.agg (pyF 3 fl st ln),.slice a n c] w _
 unfold pyF
 unfold pyW rsZ pyF at S0 O0
 have HRD:=Lib.hid hr
 have HBS:=Lib.hid hb
 have HNB:=Lib.hid hnb
 clear hr hb hnb
 go_enter Tryz.func23,Tryz.ntmps23
 go_wp2_with (first
   | (refine insI rfl rfl (w.heap.size+1+1) 0 2 5 rfl rfl rfl O0.out rfl rfl rfl ?_;intro wa0 owna0 ga0;have Oa0:=Lib.hid owna0;have Sa0:=Lib.hid (S0.out.grown (by omega) ga0);clear owna0 ga0)
   | (refine insI rfl rfl (w.heap.size+1+1) 1 3 4 rfl rfl rfl Oa0.out rfl rfl rfl ?_;intro wa1 owna1 ga1;have Oa1:=Lib.hid owna1;have Sa1:=Lib.hid (Sa0.out.grown (by omega) ga1);clear owna1 ga1)
   | (refine insI rfl rfl (w.heap.size+1+1) 2 6 8 rfl rfl rfl Oa1.out rfl rfl rfl ?_;intro wa2 owna2 ga2;have Oa2:=Lib.hid owna2;have Sa2:=Lib.hid (Sa1.out.grown (by omega) ga2);clear owna2 ga2)
   | (refine insI rfl rfl (w.heap.size+1+1) 3 8 4 rfl rfl rfl Oa2.out rfl rfl rfl ?_;intro wa3 owna3 ga3;have Oa3:=Lib.hid owna3;have Sa3:=Lib.hid (Sa2.out.grown (by omega) ga3);clear owna3 ga3;have c0:wa3.cell? ⟨w.heap.size,0,none⟩=some (.int .i64 3):=blk_cell Sa3.out.F 0;have c2:wa3.cell? ⟨w.heap.size,2,none⟩=some (.int .u32 st):=blk_cell Sa3.out.F 2)
   | (refine lokI rfl rfl (w.heap.size+1+1) 4 rfl rfl Oa3.out rfl ?_;intro sza hata _;obtain rfl:sza=4:=(atI 4 hata);clear hata)
   | (go_at_call 40;refine (eitherS_any false true _).mono ?_;rintro e w5 ⟨rfl,b5⟩;have S5:=Lib.hid (Sa3.out.below b5))
   | (refine wpList_store_blk rfl 31 _ _ rfl (w.heap.size+1) rfl (rsX (Pl.eitherR false true) (.slice none 0 0) (.slice none 0 0)) rsZ rfl 31 S5.out.R (rsX_size _ _ _) (infoRX' _ _ _) (rsX_one _ _ _ _ _ _ _) ?_;intro w7 hb7 k7))
 exact ret_blk rfl (w.heap.size+1) _ _ rfl hb7 Tryz.underlying31 (infoRX' _ _ _) rfl (SpEnd.either _ _ (sp_fin S5.out.B k7))
theorem pay6_tt {w0 w:World} (fl st ln:Int) {a:Option Addr} {n c:Nat} {b:List Int} (hf0:0≤fl) (hf1:fl<256) (hr:RdB w0 (.slice a n c) b) (hB:Below w0.heap.size w0 w) (hb:Bs b) (hs:st≠0) (hn:n≠8) :
   Calls Tryz.prog 23 #[.agg (frX (Fr.of ⟨6,fl,ln,st⟩) (.slice none 0 0) (.slice none 0 0)),.slice a n c] w (SpEnd w0 w (Pl.eitherR true true)):=by
 obtain ⟨hnb,hnc,hcm⟩:=hr.len
 have hs1:(st != 0)=true:=by simpa using hs
 have hs2:(st==0)=false:=beq_false_of_ne hs
 have hn1:((n:Int) != 8)=true:=by simp;omega
 have S0:=Lib.hid (pyS0 w 6 fl st ln)
 have O0:=Lib.hid (pyO0 w 6 fl st ln)
 have hmm:=@run_makeMap Tryz.prog
 show Calls Tryz.prog 23 #[.agg (pyF 6 fl st ln),.slice a n c] w _
 unfold pyF
 unfold pyW rsZ pyF at S0 O0
 have HRD:=Lib.hid hr
 have HBS:=Lib.hid hb
 have HNB:=Lib.hid hnb
 clear hr hb hnb
 go_enter Tryz.func23,Tryz.ntmps23
 go_upto_region 9 with (first
   | (refine insI rfl rfl (w.heap.size+1+1) 0 2 5 rfl rfl rfl O0.out rfl rfl rfl ?_;intro wa0 owna0 ga0;have Oa0:=Lib.hid owna0;have Sa0:=Lib.hid (S0.out.grown (by omega) ga0);clear owna0 ga0)
   | (refine insI rfl rfl (w.heap.size+1+1) 1 3 4 rfl rfl rfl Oa0.out rfl rfl rfl ?_;intro wa1 owna1 ga1;have Oa1:=Lib.hid owna1;have Sa1:=Lib.hid (Sa0.out.grown (by omega) ga1);clear owna1 ga1)
   | (refine insI rfl rfl (w.heap.size+1+1) 2 6 8 rfl rfl rfl Oa1.out rfl rfl rfl ?_;intro wa2 owna2 ga2;have Oa2:=Lib.hid owna2;have Sa2:=Lib.hid (Sa1.out.grown (by omega) ga2);clear owna2 ga2)
   | (refine insI rfl rfl (w.heap.size+1+1) 3 8 4 rfl rfl rfl Oa2.out rfl rfl rfl ?_;intro wa3 owna3 ga3;have Oa3:=Lib.hid owna3;have Sa3:=Lib.hid (Sa2.out.grown (by omega) ga3);clear owna3 ga3;have c0:wa3.cell? ⟨w.heap.size,0,none⟩=some (.int .i64 6):=blk_cell Sa3.out.F 0;have c2:wa3.cell? ⟨w.heap.size,2,none⟩=some (.int .u32 st):=blk_cell Sa3.out.F 2)
   | (refine lokI rfl rfl (w.heap.size+1+1) 4 rfl rfl Oa3.out rfl ?_;intro sza hata _;obtain rfl:sza=8:=(atI 8 hata);clear hata))
 clear hmm
 go_upto_region 10 with (fail)
 go_wp2_with (first
   | (go_at_call 40;refine (eitherS_any true true _).mono ?_;rintro e w5 ⟨rfl,b5⟩;have S5:=Lib.hid (Sa3.out.below b5))
   | (refine wpList_store_blk rfl 31 _ _ rfl (w.heap.size+1) rfl (rsX (Pl.eitherR true true) (.slice none 0 0) (.slice none 0 0)) rsZ rfl 31 S5.out.R (rsX_size _ _ _) (infoRX' _ _ _) (rsX_one _ _ _ _ _ _ _) ?_;intro w7 hb7 k7))
 exact ret_blk rfl (w.heap.size+1) _ _ rfl hb7 Tryz.underlying31 (infoRX' _ _ _) rfl (SpEnd.either _ _ (sp_fin S5.out.B k7))
theorem pay6_tf {w0 w:World} (fl st ln:Int) {a:Option Addr} {n c:Nat} {b:List Int} (hf0:0≤fl) (hf1:fl<256) (hr:RdB w0 (.slice a n c) b) (hB:Below w0.heap.size w0 w) (hb:Bs b) (hs:st≠0) (hn:n=8) :
   Calls Tryz.prog 23 #[.agg (frX (Fr.of ⟨6,fl,ln,st⟩) (.slice none 0 0) (.slice none 0 0)),.slice a n c] w (SpEnd w0 w (Pl.eitherR true false)):=by
 obtain ⟨hnb,hnc,hcm⟩:=hr.len
 have hs1:(st != 0)=true:=by simpa using hs
 have hs2:(st==0)=false:=beq_false_of_ne hs
 have hn1:((n:Int) != 8)=false:=by simp;omega
 clear hn
 have S0:=Lib.hid (pyS0 w 6 fl st ln)
 have O0:=Lib.hid (pyO0 w 6 fl st ln)
 have hmm:=@run_makeMap Tryz.prog
 show Calls Tryz.prog 23 #[.agg (pyF 6 fl st ln),.slice a n c] w _
 unfold pyF
 unfold pyW rsZ pyF at S0 O0
 have HRD:=Lib.hid hr
 have HBS:=Lib.hid hb
 have HNB:=Lib.hid hnb
 clear hr hb hnb
 go_enter Tryz.func23,Tryz.ntmps23
 go_upto_region 9 with (first
   | (refine insI rfl rfl (w.heap.size+1+1) 0 2 5 rfl rfl rfl O0.out rfl rfl rfl ?_;intro wa0 owna0 ga0;have Oa0:=Lib.hid owna0;have Sa0:=Lib.hid (S0.out.grown (by omega) ga0);clear owna0 ga0)
   | (refine insI rfl rfl (w.heap.size+1+1) 1 3 4 rfl rfl rfl Oa0.out rfl rfl rfl ?_;intro wa1 owna1 ga1;have Oa1:=Lib.hid owna1;have Sa1:=Lib.hid (Sa0.out.grown (by omega) ga1);clear owna1 ga1)
   | (refine insI rfl rfl (w.heap.size+1+1) 2 6 8 rfl rfl rfl Oa1.out rfl rfl rfl ?_;intro wa2 owna2 ga2;have Oa2:=Lib.hid owna2;have Sa2:=Lib.hid (Sa1.out.grown (by omega) ga2);clear owna2 ga2)
   | (refine insI rfl rfl (w.heap.size+1+1) 3 8 4 rfl rfl rfl Oa2.out rfl rfl rfl ?_;intro wa3 owna3 ga3;have Oa3:=Lib.hid owna3;have Sa3:=Lib.hid (Sa2.out.grown (by omega) ga3);clear owna3 ga3;have c0:wa3.cell? ⟨w.heap.size,0,none⟩=some (.int .i64 6):=blk_cell Sa3.out.F 0;have c2:wa3.cell? ⟨w.heap.size,2,none⟩=some (.int .u32 st):=blk_cell Sa3.out.F 2)
   | (refine lokI rfl rfl (w.heap.size+1+1) 4 rfl rfl Oa3.out rfl ?_;intro sza hata _;obtain rfl:sza=8:=(atI 8 hata);clear hata))
 clear hmm
 go_upto_region 10 with (fail)
 go_wp2_with (first
   | (go_at_call 40;refine (eitherS_any true false _).mono ?_;rintro e w5 ⟨rfl,b5⟩;have S5:=Lib.hid (Sa3.out.below b5))
   | (refine wpList_store_blk rfl 31 _ _ rfl (w.heap.size+1) rfl (rsX (Pl.eitherR true false) (.slice none 0 0) (.slice none 0 0)) rsZ rfl 31 S5.out.R (rsX_size _ _ _) (infoRX' _ _ _) (rsX_one _ _ _ _ _ _ _) ?_;intro w7 hb7 k7))
 exact ret_blk rfl (w.heap.size+1) _ _ rfl hb7 Tryz.underlying31 (infoRX' _ _ _) rfl (SpEnd.either _ _ (sp_fin S5.out.B k7))
theorem pay6_ft {w0 w:World} (fl ln:Int) {a:Option Addr} {n c:Nat} {b:List Int} (hf0:0≤fl) (hf1:fl<256) (hr:RdB w0 (.slice a n c) b) (hB:Below w0.heap.size w0 w) (hb:Bs b) (hn:n≠8) :
   Calls Tryz.prog 23 #[.agg (frX (Fr.of ⟨6,fl,ln,0⟩) (.slice none 0 0) (.slice none 0 0)),.slice a n c] w (SpEnd w0 w (Pl.eitherR false true)):=by
 obtain ⟨hnb,hnc,hcm⟩:=hr.len
 have hn1:((n:Int) != 8)=true:=by simp;omega
 have S0:=Lib.hid (pyS0 w 6 fl 0 ln)
 have O0:=Lib.hid (pyO0 w 6 fl 0 ln)
 have hmm:=@run_makeMap Tryz.prog
 show Calls Tryz.prog 23 #[.agg (pyF 6 fl 0 ln),.slice a n c] w _
 unfold pyF
 unfold pyW rsZ pyF at S0 O0
 have HRD:=Lib.hid hr
 have HBS:=Lib.hid hb
 have HNB:=Lib.hid hnb
 clear hr hb hnb
 go_enter Tryz.func23,Tryz.ntmps23
 go_wp2_with (first
   | (refine insI rfl rfl (w.heap.size+1+1) 0 2 5 rfl rfl rfl O0.out rfl rfl rfl ?_;intro wa0 owna0 ga0;have Oa0:=Lib.hid owna0;have Sa0:=Lib.hid (S0.out.grown (by omega) ga0);clear owna0 ga0)
   | (refine insI rfl rfl (w.heap.size+1+1) 1 3 4 rfl rfl rfl Oa0.out rfl rfl rfl ?_;intro wa1 owna1 ga1;have Oa1:=Lib.hid owna1;have Sa1:=Lib.hid (Sa0.out.grown (by omega) ga1);clear owna1 ga1)
   | (refine insI rfl rfl (w.heap.size+1+1) 2 6 8 rfl rfl rfl Oa1.out rfl rfl rfl ?_;intro wa2 owna2 ga2;have Oa2:=Lib.hid owna2;have Sa2:=Lib.hid (Sa1.out.grown (by omega) ga2);clear owna2 ga2)
   | (refine insI rfl rfl (w.heap.size+1+1) 3 8 4 rfl rfl rfl Oa2.out rfl rfl rfl ?_;intro wa3 owna3 ga3;have Oa3:=Lib.hid owna3;have Sa3:=Lib.hid (Sa2.out.grown (by omega) ga3);clear owna3 ga3;have c0:wa3.cell? ⟨w.heap.size,0,none⟩=some (.int .i64 6):=blk_cell Sa3.out.F 0;have c2:wa3.cell? ⟨w.heap.size,2,none⟩=some (.int .u32 0):=blk_cell Sa3.out.F 2)
   | (refine lokI rfl rfl (w.heap.size+1+1) 4 rfl rfl Oa3.out rfl ?_;intro sza hata _;obtain rfl:sza=8:=(atI 8 hata);clear hata)
   | (go_at_call 40;refine (eitherS_any false true _).mono ?_;rintro e w5 ⟨rfl,b5⟩;have S5:=Lib.hid (Sa3.out.below b5))
   | (refine wpList_store_blk rfl 31 _ _ rfl (w.heap.size+1) rfl (rsX (Pl.eitherR false true) (.slice none 0 0) (.slice none 0 0)) rsZ rfl 31 S5.out.R (rsX_size _ _ _) (infoRX' _ _ _) (rsX_one _ _ _ _ _ _ _) ?_;intro w7 hb7 k7))
 exact ret_blk rfl (w.heap.size+1) _ _ rfl hb7 Tryz.underlying31 (infoRX' _ _ _) rfl (SpEnd.either _ _ (sp_fin S5.out.B k7))
theorem pay8_ft {w0 w:World} (fl st ln:Int) {a:Option Addr} {n c:Nat} {b:List Int} (hf0:0≤fl) (hf1:fl<256) (hr:RdB w0 (.slice a n c) b) (hB:Below w0.heap.size w0 w) (hb:Bs b) (hn:n≠4) :
   Calls Tryz.prog 23 #[.agg (frX (Fr.of ⟨8,fl,ln,st⟩) (.slice none 0 0) (.slice none 0 0)),.slice a n c] w (SpEnd w0 w (Pl.eitherR false true)):=by
 obtain ⟨hnb,hnc,hcm⟩:=hr.len
 have hn1:((n:Int) != 4)=true:=by simp;omega
 have S0:=Lib.hid (pyS0 w 8 fl st ln)
 have O0:=Lib.hid (pyO0 w 8 fl st ln)
 have hmm:=@run_makeMap Tryz.prog
 show Calls Tryz.prog 23 #[.agg (pyF 8 fl st ln),.slice a n c] w _
 unfold pyF
 unfold pyW rsZ pyF at S0 O0
 have HRD:=Lib.hid hr
 have HBS:=Lib.hid hb
 have HNB:=Lib.hid hnb
 clear hr hb hnb
 go_enter Tryz.func23,Tryz.ntmps23
 go_wp2_with (first
   | (refine insI rfl rfl (w.heap.size+1+1) 0 2 5 rfl rfl rfl O0.out rfl rfl rfl ?_;intro wa0 owna0 ga0;have Oa0:=Lib.hid owna0;have Sa0:=Lib.hid (S0.out.grown (by omega) ga0);clear owna0 ga0)
   | (refine insI rfl rfl (w.heap.size+1+1) 1 3 4 rfl rfl rfl Oa0.out rfl rfl rfl ?_;intro wa1 owna1 ga1;have Oa1:=Lib.hid owna1;have Sa1:=Lib.hid (Sa0.out.grown (by omega) ga1);clear owna1 ga1)
   | (refine insI rfl rfl (w.heap.size+1+1) 2 6 8 rfl rfl rfl Oa1.out rfl rfl rfl ?_;intro wa2 owna2 ga2;have Oa2:=Lib.hid owna2;have Sa2:=Lib.hid (Sa1.out.grown (by omega) ga2);clear owna2 ga2)
   | (refine insI rfl rfl (w.heap.size+1+1) 3 8 4 rfl rfl rfl Oa2.out rfl rfl rfl ?_;intro wa3 owna3 ga3;have Oa3:=Lib.hid owna3;have Sa3:=Lib.hid (Sa2.out.grown (by omega) ga3);clear owna3 ga3;have c0:wa3.cell? ⟨w.heap.size,0,none⟩=some (.int .i64 8):=blk_cell Sa3.out.F 0;have c2:wa3.cell? ⟨w.heap.size,2,none⟩=some (.int .u32 st):=blk_cell Sa3.out.F 2)
   | (refine lokI rfl rfl (w.heap.size+1+1) 4 rfl rfl Oa3.out rfl ?_;intro sza hata _;obtain rfl:sza=4:=(atI 4 hata);clear hata)
   | (go_at_call 40;refine (eitherS_any false true _).mono ?_;rintro e w5 ⟨rfl,b5⟩;have S5:=Lib.hid (Sa3.out.below b5))
   | (refine wpList_store_blk rfl 31 _ _ rfl (w.heap.size+1) rfl (rsX (Pl.eitherR false true) (.slice none 0 0) (.slice none 0 0)) rsZ rfl 31 S5.out.R (rsX_size _ _ _) (infoRX' _ _ _) (rsX_one _ _ _ _ _ _ _) ?_;intro w7 hb7 k7))
 exact ret_blk rfl (w.heap.size+1) _ _ rfl hb7 Tryz.underlying31 (infoRX' _ _ _) rfl (SpEnd.either _ _ (sp_fin S5.out.B k7))
theorem pay0_zero {w0 w:World} (fl ln:Int) {a:Option Addr} {n c:Nat} {b:List Int} (hf0:0≤fl) (hf1:fl<256) (hr:RdB w0 (.slice a n c) b) (hB:Below w0.heap.size w0 w) (hb:Bs b) :
   Calls Tryz.prog 23 #[.agg (frX (Fr.of ⟨0,fl,ln,0⟩) (.slice none 0 0) (.slice none 0 0)),.slice a n c] w (SpEnd w0 w (.bad 4 1 0)):=by
 obtain ⟨hnb,hnc,hcm⟩:=hr.len
 have S0:=Lib.hid (pyS0 w 0 fl 0 ln)
 have O0:=Lib.hid (pyO0 w 0 fl 0 ln)
 have hmm:=@run_makeMap Tryz.prog
 show Calls Tryz.prog 23 #[.agg (pyF 0 fl 0 ln),.slice a n c] w _
 unfold pyF
 unfold pyW rsZ pyF at S0 O0
 have HRD:=Lib.hid hr
 have HBS:=Lib.hid hb
 have HNB:=Lib.hid hnb
 clear hr hb hnb
 go_enter Tryz.func23,Tryz.ntmps23
 go_wp2_with (first
   | (refine insI rfl rfl (w.heap.size+1+1) 0 2 5 rfl rfl rfl O0.out rfl rfl rfl ?_;intro wa0 owna0 ga0;have Oa0:=Lib.hid owna0;have Sa0:=Lib.hid (S0.out.grown (by omega) ga0);clear owna0 ga0)
   | (refine insI rfl rfl (w.heap.size+1+1) 1 3 4 rfl rfl rfl Oa0.out rfl rfl rfl ?_;intro wa1 owna1 ga1;have Oa1:=Lib.hid owna1;have Sa1:=Lib.hid (Sa0.out.grown (by omega) ga1);clear owna1 ga1)
   | (refine insI rfl rfl (w.heap.size+1+1) 2 6 8 rfl rfl rfl Oa1.out rfl rfl rfl ?_;intro wa2 owna2 ga2;have Oa2:=Lib.hid owna2;have Sa2:=Lib.hid (Sa1.out.grown (by omega) ga2);clear owna2 ga2)
   | (refine insI rfl rfl (w.heap.size+1+1) 3 8 4 rfl rfl rfl Oa2.out rfl rfl rfl ?_;intro wa3 owna3 ga3;have Oa3:=Lib.hid owna3;have Sa3:=Lib.hid (Sa2.out.grown (by omega) ga3);clear owna3 ga3;have c0:wa3.cell? ⟨w.heap.size,0,none⟩=some (.int .i64 0):=blk_cell Sa3.out.F 0;have c2:wa3.cell? ⟨w.heap.size,2,none⟩=some (.int .u32 0):=blk_cell Sa3.out.F 2)
   | (refine lokI rfl rfl (w.heap.size+1+1) 4 rfl rfl Oa3.out rfl ?_;intro sza hata _;clear hata)
   | (go_at_call 24;refine (connS_any 1 _).mono ?_;rintro e w5 ⟨rfl,b5⟩;have S5:=Lib.hid (Sa3.out.below b5))
   | (refine wpList_store_blk rfl 31 _ _ rfl (w.heap.size+1) rfl (rsX (.bad 4 1 0) (.slice none 0 0) (.slice none 0 0)) rsZ rfl 31 S5.out.R (rsX_size _ _ _) (infoRX' _ _ _) (rsX_one _ _ _ _ _ _ _) ?_;intro w7 hb7 k7))
 exact ret_blk rfl (w.heap.size+1) _ _ rfl hb7 Tryz.underlying31 (infoRX' _ _ _) rfl (SpEnd.nil (sp_fin S5.out.B k7))
theorem pay1_zero {w0 w:World} (fl ln:Int) {a:Option Addr} {n c:Nat} {b:List Int} (hf0:0≤fl) (hf1:fl<256) (hr:RdB w0 (.slice a n c) b) (hB:Below w0.heap.size w0 w) (hb:Bs b) :
   Calls Tryz.prog 23 #[.agg (frX (Fr.of ⟨1,fl,ln,0⟩) (.slice none 0 0) (.slice none 0 0)),.slice a n c] w (SpEnd w0 w (.bad 4 1 0)):=by
 obtain ⟨hnb,hnc,hcm⟩:=hr.len
 have S0:=Lib.hid (pyS0 w 1 fl 0 ln)
 have O0:=Lib.hid (pyO0 w 1 fl 0 ln)
 have hmm:=@run_makeMap Tryz.prog
 show Calls Tryz.prog 23 #[.agg (pyF 1 fl 0 ln),.slice a n c] w _
 unfold pyF
 unfold pyW rsZ pyF at S0 O0
 have HRD:=Lib.hid hr
 have HBS:=Lib.hid hb
 have HNB:=Lib.hid hnb
 clear hr hb hnb
 go_enter Tryz.func23,Tryz.ntmps23
 go_wp2_with (first
   | (refine insI rfl rfl (w.heap.size+1+1) 0 2 5 rfl rfl rfl O0.out rfl rfl rfl ?_;intro wa0 owna0 ga0;have Oa0:=Lib.hid owna0;have Sa0:=Lib.hid (S0.out.grown (by omega) ga0);clear owna0 ga0)
   | (refine insI rfl rfl (w.heap.size+1+1) 1 3 4 rfl rfl rfl Oa0.out rfl rfl rfl ?_;intro wa1 owna1 ga1;have Oa1:=Lib.hid owna1;have Sa1:=Lib.hid (Sa0.out.grown (by omega) ga1);clear owna1 ga1)
   | (refine insI rfl rfl (w.heap.size+1+1) 2 6 8 rfl rfl rfl Oa1.out rfl rfl rfl ?_;intro wa2 owna2 ga2;have Oa2:=Lib.hid owna2;have Sa2:=Lib.hid (Sa1.out.grown (by omega) ga2);clear owna2 ga2)
   | (refine insI rfl rfl (w.heap.size+1+1) 3 8 4 rfl rfl rfl Oa2.out rfl rfl rfl ?_;intro wa3 owna3 ga3;have Oa3:=Lib.hid owna3;have Sa3:=Lib.hid (Sa2.out.grown (by omega) ga3);clear owna3 ga3;have c0:wa3.cell? ⟨w.heap.size,0,none⟩=some (.int .i64 1):=blk_cell Sa3.out.F 0;have c2:wa3.cell? ⟨w.heap.size,2,none⟩=some (.int .u32 0):=blk_cell Sa3.out.F 2)
   | (refine lokI rfl rfl (w.heap.size+1+1) 4 rfl rfl Oa3.out rfl ?_;intro sza hata _;clear hata)
   | (go_at_call 24;refine (connS_any 1 _).mono ?_;rintro e w5 ⟨rfl,b5⟩;have S5:=Lib.hid (Sa3.out.below b5))
   | (refine wpList_store_blk rfl 31 _ _ rfl (w.heap.size+1) rfl (rsX (.bad 4 1 0) (.slice none 0 0) (.slice none 0 0)) rsZ rfl 31 S5.out.R (rsX_size _ _ _) (infoRX' _ _ _) (rsX_one _ _ _ _ _ _ _) ?_;intro w7 hb7 k7))
 exact ret_blk rfl (w.heap.size+1) _ _ rfl hb7 Tryz.underlying31 (infoRX' _ _ _) rfl (SpEnd.nil (sp_fin S5.out.B k7))
theorem pay5_zero {w0 w:World} (fl ln:Int) {a:Option Addr} {n c:Nat} {b:List Int} (hf0:0≤fl) (hf1:fl<256) (hr:RdB w0 (.slice a n c) b) (hB:Below w0.heap.size w0 w) (hb:Bs b) :
   Calls Tryz.prog 23 #[.agg (frX (Fr.of ⟨5,fl,ln,0⟩) (.slice none 0 0) (.slice none 0 0)),.slice a n c] w (SpEnd w0 w (.bad 4 1 0)):=by
 obtain ⟨hnb,hnc,hcm⟩:=hr.len
 have S0:=Lib.hid (pyS0 w 5 fl 0 ln)
 have O0:=Lib.hid (pyO0 w 5 fl 0 ln)
 have hmm:=@run_makeMap Tryz.prog
 show Calls Tryz.prog 23 #[.agg (pyF 5 fl 0 ln),.slice a n c] w _
 unfold pyF
 unfold pyW rsZ pyF at S0 O0
 have HRD:=Lib.hid hr
 have HBS:=Lib.hid hb
 have HNB:=Lib.hid hnb
 clear hr hb hnb
 go_enter Tryz.func23,Tryz.ntmps23
 go_wp2_with (first
   | (refine insI rfl rfl (w.heap.size+1+1) 0 2 5 rfl rfl rfl O0.out rfl rfl rfl ?_;intro wa0 owna0 ga0;have Oa0:=Lib.hid owna0;have Sa0:=Lib.hid (S0.out.grown (by omega) ga0);clear owna0 ga0)
   | (refine insI rfl rfl (w.heap.size+1+1) 1 3 4 rfl rfl rfl Oa0.out rfl rfl rfl ?_;intro wa1 owna1 ga1;have Oa1:=Lib.hid owna1;have Sa1:=Lib.hid (Sa0.out.grown (by omega) ga1);clear owna1 ga1)
   | (refine insI rfl rfl (w.heap.size+1+1) 2 6 8 rfl rfl rfl Oa1.out rfl rfl rfl ?_;intro wa2 owna2 ga2;have Oa2:=Lib.hid owna2;have Sa2:=Lib.hid (Sa1.out.grown (by omega) ga2);clear owna2 ga2)
   | (refine insI rfl rfl (w.heap.size+1+1) 3 8 4 rfl rfl rfl Oa2.out rfl rfl rfl ?_;intro wa3 owna3 ga3;have Oa3:=Lib.hid owna3;have Sa3:=Lib.hid (Sa2.out.grown (by omega) ga3);clear owna3 ga3;have c0:wa3.cell? ⟨w.heap.size,0,none⟩=some (.int .i64 5):=blk_cell Sa3.out.F 0;have c2:wa3.cell? ⟨w.heap.size,2,none⟩=some (.int .u32 0):=blk_cell Sa3.out.F 2)
   | (refine lokI rfl rfl (w.heap.size+1+1) 4 rfl rfl Oa3.out rfl ?_;intro sza hata _;clear hata)
   | (go_at_call 24;refine (connS_any 1 _).mono ?_;rintro e w5 ⟨rfl,b5⟩;have S5:=Lib.hid (Sa3.out.below b5))
   | (refine wpList_store_blk rfl 31 _ _ rfl (w.heap.size+1) rfl (rsX (.bad 4 1 0) (.slice none 0 0) (.slice none 0 0)) rsZ rfl 31 S5.out.R (rsX_size _ _ _) (infoRX' _ _ _) (rsX_one _ _ _ _ _ _ _) ?_;intro w7 hb7 k7))
 exact ret_blk rfl (w.heap.size+1) _ _ rfl hb7 Tryz.underlying31 (infoRX' _ _ _) rfl (SpEnd.nil (sp_fin S5.out.B k7))
theorem pay9_zero {w0 w:World} (fl ln:Int) {a:Option Addr} {n c:Nat} {b:List Int} (hf0:0≤fl) (hf1:fl<256) (hr:RdB w0 (.slice a n c) b) (hB:Below w0.heap.size w0 w) (hb:Bs b) :
   Calls Tryz.prog 23 #[.agg (frX (Fr.of ⟨9,fl,ln,0⟩) (.slice none 0 0) (.slice none 0 0)),.slice a n c] w (SpEnd w0 w (.bad 4 1 0)):=by
 obtain ⟨hnb,hnc,hcm⟩:=hr.len
 have S0:=Lib.hid (pyS0 w 9 fl 0 ln)
 have O0:=Lib.hid (pyO0 w 9 fl 0 ln)
 have hmm:=@run_makeMap Tryz.prog
 show Calls Tryz.prog 23 #[.agg (pyF 9 fl 0 ln),.slice a n c] w _
 unfold pyF
 unfold pyW rsZ pyF at S0 O0
 have HRD:=Lib.hid hr
 have HBS:=Lib.hid hb
 have HNB:=Lib.hid hnb
 clear hr hb hnb
 go_enter Tryz.func23,Tryz.ntmps23
 go_wp2_with (first
   | (refine insI rfl rfl (w.heap.size+1+1) 0 2 5 rfl rfl rfl O0.out rfl rfl rfl ?_;intro wa0 owna0 ga0;have Oa0:=Lib.hid owna0;have Sa0:=Lib.hid (S0.out.grown (by omega) ga0);clear owna0 ga0)
   | (refine insI rfl rfl (w.heap.size+1+1) 1 3 4 rfl rfl rfl Oa0.out rfl rfl rfl ?_;intro wa1 owna1 ga1;have Oa1:=Lib.hid owna1;have Sa1:=Lib.hid (Sa0.out.grown (by omega) ga1);clear owna1 ga1)
   | (refine insI rfl rfl (w.heap.size+1+1) 2 6 8 rfl rfl rfl Oa1.out rfl rfl rfl ?_;intro wa2 owna2 ga2;have Oa2:=Lib.hid owna2;have Sa2:=Lib.hid (Sa1.out.grown (by omega) ga2);clear owna2 ga2)
   | (refine insI rfl rfl (w.heap.size+1+1) 3 8 4 rfl rfl rfl Oa2.out rfl rfl rfl ?_;intro wa3 owna3 ga3;have Oa3:=Lib.hid owna3;have Sa3:=Lib.hid (Sa2.out.grown (by omega) ga3);clear owna3 ga3;have c0:wa3.cell? ⟨w.heap.size,0,none⟩=some (.int .i64 9):=blk_cell Sa3.out.F 0;have c2:wa3.cell? ⟨w.heap.size,2,none⟩=some (.int .u32 0):=blk_cell Sa3.out.F 2)
   | (refine lokI rfl rfl (w.heap.size+1+1) 4 rfl rfl Oa3.out rfl ?_;intro sza hata _;clear hata)
   | (go_at_call 24;refine (connS_any 1 _).mono ?_;rintro e w5 ⟨rfl,b5⟩;have S5:=Lib.hid (Sa3.out.below b5))
   | (refine wpList_store_blk rfl 31 _ _ rfl (w.heap.size+1) rfl (rsX (.bad 4 1 0) (.slice none 0 0) (.slice none 0 0)) rsZ rfl 31 S5.out.R (rsX_size _ _ _) (infoRX' _ _ _) (rsX_one _ _ _ _ _ _ _) ?_;intro w7 hb7 k7))
 exact ret_blk rfl (w.heap.size+1) _ _ rfl hb7 Tryz.underlying31 (infoRX' _ _ _) rfl (SpEnd.nil (sp_fin S5.out.B k7))
end Go.Proofs.YtfdlbjibninakaaGreatDoor

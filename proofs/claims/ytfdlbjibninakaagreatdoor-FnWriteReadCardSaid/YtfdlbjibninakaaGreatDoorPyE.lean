/- The reference's reading: the payload of a frame (4: DATA; more faults). -/
import Derived.Test.YtfdlbjibninakaaGreatDoorSp4
import Derived.Test.YtfdlbjibninakaaGreatDoorPyA
import Derived.Outline
import Derived.Deep.CutRange
set_option linter.unusedVariables false
set_option linter.unusedSimpArgs false
namespace Go.Proofs.YtfdlbjibninakaaGreatDoor
set_option maxRecDepth 100000
set_option maxHeartbeats 1000000
open Go.RowKit Go.Maps
theorem pay0_none0 {w0 w:World} (fl st ln:Int) {a:Option Addr} {n c:Nat} {b:List Int} (hf0:0≤fl) (hf1:fl<256) (hr:RdB w0 (.slice a n c) b) (hB:Below w0.heap.size w0 w) (hb:Bs b) (hs:st≠0) (hu:Pl.sUnpad ⟨0,fl,ln,st⟩ b=none) (hn:n=0) :
   Calls Tryz.prog 23 #[.agg (frX (Fr.of ⟨0,fl,ln,st⟩) (.slice none 0 0) (.slice none 0 0)),.slice a n c] w (SpEnd w0 w (.bad 7 0 0)):=by
 obtain ⟨hnb,hnc,hcm⟩:=hr.len
 have hs1:(st != 0)=true:=by simpa using hs
 have hs2:(st==0)=false:=beq_false_of_ne hs
 have HU:=Lib.hid hu
 clear hu
 have hn1:((n:Int)==0)=true:=by simp;omega
 clear hn
 have S0:=Lib.hid (pyS0 w 0 fl st ln)
 have O0:=Lib.hid (pyO0 w 0 fl st ln)
 have hmm:=@run_makeMap Tryz.prog
 show Calls Tryz.prog 23 #[.agg (pyF 0 fl st ln),.slice a n c] w _
 unfold pyF
 unfold pyW rsZ pyF at S0 O0
 have HRD:=Lib.hid hr
 have HBS:=Lib.hid hb
 have HNB:=Lib.hid hnb
 clear hr hb hnb
 go_enter Tryz.func23,Tryz.ntmps23
 go_wp2_with (first
   | (refine insI rfl rfl (w.heap.size+1+1) 0 2 5 rfl rfl rfl O0.out rfl rfl rfl ?_;intro wa0 owna0 ga0;have Oa0:=Lib.hid owna0;have Sa0:=Lib.hid (S0.out.grown (by omega) ga0);clear owna0 ga0)
   | (refine insI rfl rfl (w.heap.size+1+1) 1 3 4 rfl rfl rfl Oa0.out rfl rfl rfl ?_;intro wa1 owna1 ga1;have Oa1:=Lib.hid owna1;have Sa1:=Lib.hid (Sa0.out.grown (by omega) ga1);clear owna1 ga1)
   | (refine insI rfl rfl (w.heap.size+1+1) 2 6 8 rfl rfl rfl Oa1.out rfl rfl rfl ?_;intro wa2 owna2 ga2;have Oa2:=Lib.hid owna2;have Sa2:=Lib.hid (Sa1.out.grown (by omega) ga2);clear owna2 ga2)
   | (refine insI rfl rfl (w.heap.size+1+1) 3 8 4 rfl rfl rfl Oa2.out rfl rfl rfl ?_;intro wa3 owna3 ga3;have Oa3:=Lib.hid owna3;have Sa3:=Lib.hid (Sa2.out.grown (by omega) ga3);clear owna3 ga3;have c0:wa3.cell? ⟨w.heap.size,0,none⟩=some (.int .i64 0):=blk_cell Sa3.out.F 0;have c2:wa3.cell? ⟨w.heap.size,2,none⟩=some (.int .u32 st):=blk_cell Sa3.out.F 2)
   | (refine lokI rfl rfl (w.heap.size+1+1) 4 rfl rfl Oa3.out rfl ?_;intro sza hata _;clear hata)
   | (refine wpList_load_blk rfl 29 _ rfl w.heap.size rfl (frX (Fr.of ⟨0,fl,ln,st⟩) (.slice none 0 0) (.slice none 0 0)) 29 Sa3.out.F Tryz.underlying29 (infoFsX _ _ _) ?_)
   | (go_at_call 41;refine (unpadded_none ⟨0,fl,ln,st⟩ (Fr.of ⟨0,fl,ln,st⟩) (.slice none 0 0) (.slice none 0 0) rfl hf0 hf1 HRD.out (hB.trans (Sa3.out.B.mono hB.size)) HBS.out HU.out).mono ?_;rintro e w5 ⟨rfl,b5⟩;have S5:=Lib.hid (Sa3.out.below b5);clear b5)
   | (refine wpList_store_blk rfl 31 _ _ rfl (w.heap.size+1) rfl (rsX (.bad 7 0 0) (.slice none 0 0) (.slice none 0 0)) rsZ rfl 31 S5.out.R (rsX_size _ _ _) (infoRX' _ _ _) (rsX_one _ _ _ _ _ _ _) ?_;intro w7 hb7 k7))
 exact ret_blk rfl (w.heap.size+1) _ _ rfl hb7 Tryz.underlying31 (infoRX' _ _ _) rfl (SpEnd.nil (sp_fin S5.out.B k7))
theorem pay0_none1 {w0 w:World} (fl st ln:Int) {a:Option Addr} {n c:Nat} {b:List Int} (hf0:0≤fl) (hf1:fl<256) (hr:RdB w0 (.slice a n c) b) (hB:Below w0.heap.size w0 w) (hb:Bs b) (hs:st≠0) (hu:Pl.sUnpad ⟨0,fl,ln,st⟩ b=none) (hn:n≠0) :
   Calls Tryz.prog 23 #[.agg (frX (Fr.of ⟨0,fl,ln,st⟩) (.slice none 0 0) (.slice none 0 0)),.slice a n c] w (SpEnd w0 w (.bad 4 1 0)):=by
 obtain ⟨hnb,hnc,hcm⟩:=hr.len
 have hs1:(st != 0)=true:=by simpa using hs
 have hs2:(st==0)=false:=beq_false_of_ne hs
 have HU:=Lib.hid hu
 clear hu
 have hn1:((n:Int)==0)=false:=by simp;omega
 have S0:=Lib.hid (pyS0 w 0 fl st ln)
 have O0:=Lib.hid (pyO0 w 0 fl st ln)
 have hmm:=@run_makeMap Tryz.prog
 show Calls Tryz.prog 23 #[.agg (pyF 0 fl st ln),.slice a n c] w _
 unfold pyF
 unfold pyW rsZ pyF at S0 O0
 have HRD:=Lib.hid hr
 have HBS:=Lib.hid hb
 have HNB:=Lib.hid hnb
 clear hr hb hnb
 go_enter Tryz.func23,Tryz.ntmps23
 go_wp2_with (first
   | (refine insI rfl rfl (w.heap.size+1+1) 0 2 5 rfl rfl rfl O0.out rfl rfl rfl ?_;intro wa0 owna0 ga0;have Oa0:=Lib.hid owna0;have Sa0:=Lib.hid (S0.out.grown (by omega) ga0);clear owna0 ga0)
   | (refine insI rfl rfl (w.heap.size+1+1) 1 3 4 rfl rfl rfl Oa0.out rfl rfl rfl ?_;intro wa1 owna1 ga1;have Oa1:=Lib.hid owna1;have Sa1:=Lib.hid (Sa0.out.grown (by omega) ga1);clear owna1 ga1)
   | (refine insI rfl rfl (w.heap.size+1+1) 2 6 8 rfl rfl rfl Oa1.out rfl rfl rfl ?_;intro wa2 owna2 ga2;have Oa2:=Lib.hid owna2;have Sa2:=Lib.hid (Sa1.out.grown (by omega) ga2);clear owna2 ga2)
   | (refine insI rfl rfl (w.heap.size+1+1) 3 8 4 rfl rfl rfl Oa2.out rfl rfl rfl ?_;intro wa3 owna3 ga3;have Oa3:=Lib.hid owna3;have Sa3:=Lib.hid (Sa2.out.grown (by omega) ga3);clear owna3 ga3;have c0:wa3.cell? ⟨w.heap.size,0,none⟩=some (.int .i64 0):=blk_cell Sa3.out.F 0;have c2:wa3.cell? ⟨w.heap.size,2,none⟩=some (.int .u32 st):=blk_cell Sa3.out.F 2)
   | (refine lokI rfl rfl (w.heap.size+1+1) 4 rfl rfl Oa3.out rfl ?_;intro sza hata _;clear hata)
   | (refine wpList_load_blk rfl 29 _ rfl w.heap.size rfl (frX (Fr.of ⟨0,fl,ln,st⟩) (.slice none 0 0) (.slice none 0 0)) 29 Sa3.out.F Tryz.underlying29 (infoFsX _ _ _) ?_)
   | (go_at_call 41;refine (unpadded_none ⟨0,fl,ln,st⟩ (Fr.of ⟨0,fl,ln,st⟩) (.slice none 0 0) (.slice none 0 0) rfl hf0 hf1 HRD.out (hB.trans (Sa3.out.B.mono hB.size)) HBS.out HU.out).mono ?_;rintro e w5 ⟨rfl,b5⟩;have S5:=Lib.hid (Sa3.out.below b5);clear b5)
   | (go_at_call 24;refine (connS_any 1 _).mono ?_;rintro e w8 ⟨rfl,b8⟩;have T8:=Lib.hid (S5.out.below b8))
   | (refine wpList_store_blk rfl 31 _ _ rfl (w.heap.size+1) rfl (rsX (.bad 4 1 0) (.slice none 0 0) (.slice none 0 0)) rsZ rfl 31 T8.out.R (rsX_size _ _ _) (infoRX' _ _ _) (rsX_one _ _ _ _ _ _ _) ?_;intro w7 hb7 k7))
 exact ret_blk rfl (w.heap.size+1) _ _ rfl hb7 Tryz.underlying31 (infoRX' _ _ _) rfl (SpEnd.nil (sp_fin T8.out.B k7))
theorem pay0_ok {w0 w:World} (fl st ln:Int) {a:Option Addr} {n c:Nat} {b d:List Int} (hf0:0≤fl) (hf1:fl<256) (hr:RdB w0 (.slice a n c) b) (hB:Below w0.heap.size w0 w) (hb:Bs b) (hs:st≠0) (hu:Pl.sUnpad ⟨0,fl,ln,st⟩ b=some d) :
   Calls Tryz.prog 23 #[.agg (frX (Fr.of ⟨0,fl,ln,st⟩) (.slice none 0 0) (.slice none 0 0)),.slice a n c] w (SpEnd w0 w (.ok { Fr.of ⟨0,fl,ln,st⟩ with data:=d })):=by
 obtain ⟨hnb,hnc,hcm⟩:=hr.len
 have hs1:(st != 0)=true:=by simpa using hs
 have hs2:(st==0)=false:=beq_false_of_ne hs
 have HU:=Lib.hid hu
 clear hu
 have S0:=Lib.hid (pyS0 w 0 fl st ln)
 have O0:=Lib.hid (pyO0 w 0 fl st ln)
 have hmm:=@run_makeMap Tryz.prog
 show Calls Tryz.prog 23 #[.agg (pyF 0 fl st ln),.slice a n c] w _
 unfold pyF
 unfold pyW rsZ pyF at S0 O0
 have HRD:=Lib.hid hr
 have HBS:=Lib.hid hb
 have HNB:=Lib.hid hnb
 clear hr hb hnb
 go_enter Tryz.func23,Tryz.ntmps23
 go_wp2_with (first
   | (refine insI rfl rfl (w.heap.size+1+1) 0 2 5 rfl rfl rfl O0.out rfl rfl rfl ?_;intro wa0 owna0 ga0;have Oa0:=Lib.hid owna0;have Sa0:=Lib.hid (S0.out.grown (by omega) ga0);clear owna0 ga0)
   | (refine insI rfl rfl (w.heap.size+1+1) 1 3 4 rfl rfl rfl Oa0.out rfl rfl rfl ?_;intro wa1 owna1 ga1;have Oa1:=Lib.hid owna1;have Sa1:=Lib.hid (Sa0.out.grown (by omega) ga1);clear owna1 ga1)
   | (refine insI rfl rfl (w.heap.size+1+1) 2 6 8 rfl rfl rfl Oa1.out rfl rfl rfl ?_;intro wa2 owna2 ga2;have Oa2:=Lib.hid owna2;have Sa2:=Lib.hid (Sa1.out.grown (by omega) ga2);clear owna2 ga2)
   | (refine insI rfl rfl (w.heap.size+1+1) 3 8 4 rfl rfl rfl Oa2.out rfl rfl rfl ?_;intro wa3 owna3 ga3;have Oa3:=Lib.hid owna3;have Sa3:=Lib.hid (Sa2.out.grown (by omega) ga3);clear owna3 ga3;have c0:wa3.cell? ⟨w.heap.size,0,none⟩=some (.int .i64 0):=blk_cell Sa3.out.F 0;have c2:wa3.cell? ⟨w.heap.size,2,none⟩=some (.int .u32 st):=blk_cell Sa3.out.F 2)
   | (refine lokI rfl rfl (w.heap.size+1+1) 4 rfl rfl Oa3.out rfl ?_;intro sza hata _;clear hata)
   | (refine wpList_load_blk rfl 29 _ rfl w.heap.size rfl (frX (Fr.of ⟨0,fl,ln,st⟩) (.slice none 0 0) (.slice none 0 0)) 29 Sa3.out.F Tryz.underlying29 (infoFsX _ _ _) ?_)
   | (go_at_call 41;refine (unpadded_some ⟨0,fl,ln,st⟩ (Fr.of ⟨0,fl,ln,st⟩) (.slice none 0 0) (.slice none 0 0) rfl hf0 hf1 HRD.out (hB.trans (Sa3.out.B.mono hB.size)) HBS.out HU.out).mono ?_;rintro e w5 ⟨da,dc,rfl,hrd,-,-,b5⟩;have S5:=Lib.hid (Sa3.out.below b5);have HR5:=Lib.hid hrd;clear hrd b5)
   | (refine wpList_store_cell rfl 22 _ _ rfl w.heap.size 4 rfl (.slice da d.length dc) rfl rfl infoSl _ 29 S5.out.F (frX_lt (by decide)) ?_;intro w6 hF6 k6;rw [frX_data] at hF6;have T6:=Lib.hid (S5.out.put hF6 k6);clear hF6 k6)
   | (refine wpList_load_blk rfl 29 _ rfl w.heap.size rfl (frX (Fr.of ⟨0,fl,ln,st⟩) (.slice da d.length dc) (.slice none 0 0)) 29 T6.out.F Tryz.underlying29 (infoFsX _ _ _) ?_)
   | (refine wpList_build_rs rfl _ rfl (frX (Fr.of ⟨0,fl,ln,st⟩) (.slice da d.length dc) (.slice none 0 0)) rfl (frX_size14 _ _ _) ?_)
   | (refine wpList_store_blk rfl 31 _ _ rfl (w.heap.size+1) rfl (rsC 0 0 0 (frX (Fr.of ⟨0,fl,ln,st⟩) (.slice da d.length dc) (.slice none 0 0))) rsZ rfl 31 T6.out.R (rsC_size _ _ _ _ _ _) (infoRsC _ _ _ _ _ _) (rsC_one _ _ _ _ _ _ _ _ _ _) ?_;intro w7 hb7 k7))
 exact ret_blk rfl (w.heap.size+1) _ _ rfl hb7 Tryz.underlying31 (infoRsC _ _ _ _ _ _) rfl (SpEnd.fr (sp_fin T6.out.B k7) (HR5.out) rfl rfl)
theorem pay7_tt {w0 w:World} (fl st ln:Int) {a:Option Addr} {n c:Nat} {b:List Int} (hf0:0≤fl) (hf1:fl<256) (hr:RdB w0 (.slice a n c) b) (hB:Below w0.heap.size w0 w) (hb:Bs b) (hs:st≠0) (hn:n<8) :
   Calls Tryz.prog 23 #[.agg (frX (Fr.of ⟨7,fl,ln,st⟩) (.slice none 0 0) (.slice none 0 0)),.slice a n c] w (SpEnd w0 w (Pl.eitherR true true)):=by
 obtain ⟨hnb,hnc,hcm⟩:=hr.len
 have hs1:(st != 0)=true:=by simpa using hs
 have hs2:(st==0)=false:=beq_false_of_ne hs
 have hn1:(n:Int)<8:=by omega
 have S0:=Lib.hid (pyS0 w 7 fl st ln)
 have O0:=Lib.hid (pyO0 w 7 fl st ln)
 have hmm:=@run_makeMap Tryz.prog
 show Calls Tryz.prog 23 #[.agg (pyF 7 fl st ln),.slice a n c] w _
 unfold pyF
 unfold pyW rsZ pyF at S0 O0
 have HRD:=Lib.hid hr
 have HBS:=Lib.hid hb
 have HNB:=Lib.hid hnb
 clear hr hb hnb
 go_enter Tryz.func23,Tryz.ntmps23
 go_wp2_with (first
   | (refine insI rfl rfl (w.heap.size+1+1) 0 2 5 rfl rfl rfl O0.out rfl rfl rfl ?_;intro wa0 owna0 ga0;have Oa0:=Lib.hid owna0;have Sa0:=Lib.hid (S0.out.grown (by omega) ga0);clear owna0 ga0)
   | (refine insI rfl rfl (w.heap.size+1+1) 1 3 4 rfl rfl rfl Oa0.out rfl rfl rfl ?_;intro wa1 owna1 ga1;have Oa1:=Lib.hid owna1;have Sa1:=Lib.hid (Sa0.out.grown (by omega) ga1);clear owna1 ga1)
   | (refine insI rfl rfl (w.heap.size+1+1) 2 6 8 rfl rfl rfl Oa1.out rfl rfl rfl ?_;intro wa2 owna2 ga2;have Oa2:=Lib.hid owna2;have Sa2:=Lib.hid (Sa1.out.grown (by omega) ga2);clear owna2 ga2)
   | (refine insI rfl rfl (w.heap.size+1+1) 3 8 4 rfl rfl rfl Oa2.out rfl rfl rfl ?_;intro wa3 owna3 ga3;have Oa3:=Lib.hid owna3;have Sa3:=Lib.hid (Sa2.out.grown (by omega) ga3);clear owna3 ga3;have c0:wa3.cell? ⟨w.heap.size,0,none⟩=some (.int .i64 7):=blk_cell Sa3.out.F 0;have c2:wa3.cell? ⟨w.heap.size,2,none⟩=some (.int .u32 st):=blk_cell Sa3.out.F 2)
   | (refine lokI rfl rfl (w.heap.size+1+1) 4 rfl rfl Oa3.out rfl ?_;intro sza hata _;clear hata)
   | (refine insI rfl rfl wa3.heap.size 0 7 8 rfl rfl rfl (World.ownsMap_made _ _ _ _) rfl rfl rfl ?_;intro wb0 ownb0 gb0;have Ob0:=Lib.hid ownb0;have Sb0:=Lib.hid (PyS.grown (Sa3.out.alloc _) Sa3.out.lt gb0);clear ownb0 gb0)
   | (refine insI rfl rfl wa3.heap.size 1 16 4 rfl rfl rfl Ob0.out rfl rfl rfl ?_;intro wb1 ownb1 gb1;have Ob1:=Lib.hid ownb1;have Sb1:=Lib.hid (PyS.grown Sb0.out Sa3.out.lt gb1);clear ownb1 gb1;have d0:wb1.cell? ⟨w.heap.size,0,none⟩=some (.int .i64 7):=blk_cell Sb1.out.F 0;have d2:wb1.cell? ⟨w.heap.size,2,none⟩=some (.int .u32 st):=blk_cell Sb1.out.F 2)
   | (refine lokI rfl rfl wa3.heap.size 2 rfl rfl Ob1.out rfl ?_;intro szb hatb _;obtain rfl:szb=8:=(atI 8 hatb);clear hatb)
   | (go_at_call 40;refine (eitherS_any true true _).mono ?_;rintro e w5 ⟨rfl,b5⟩;have S5:=Lib.hid (Sb1.out.below b5))
   | (refine wpList_store_blk rfl 31 _ _ rfl (w.heap.size+1) rfl (rsX (Pl.eitherR true true) (.slice none 0 0) (.slice none 0 0)) rsZ rfl 31 S5.out.R (rsX_size _ _ _) (infoRX' _ _ _) (rsX_one _ _ _ _ _ _ _) ?_;intro w7 hb7 k7))
 exact ret_blk rfl (w.heap.size+1) _ _ rfl hb7 Tryz.underlying31 (infoRX' _ _ _) rfl (SpEnd.either _ _ (sp_fin S5.out.B k7))
theorem pay7_tf {w0 w:World} (fl st ln:Int) {a:Option Addr} {n c:Nat} {b:List Int} (hf0:0≤fl) (hf1:fl<256) (hr:RdB w0 (.slice a n c) b) (hB:Below w0.heap.size w0 w) (hb:Bs b) (hs:st≠0) (hn:¬n<8) :
   Calls Tryz.prog 23 #[.agg (frX (Fr.of ⟨7,fl,ln,st⟩) (.slice none 0 0) (.slice none 0 0)),.slice a n c] w (SpEnd w0 w (Pl.eitherR true false)):=by
 obtain ⟨hnb,hnc,hcm⟩:=hr.len
 have hs1:(st != 0)=true:=by simpa using hs
 have hs2:(st==0)=false:=beq_false_of_ne hs
 have hn1:¬(n:Int)<8:=by omega
 have S0:=Lib.hid (pyS0 w 7 fl st ln)
 have O0:=Lib.hid (pyO0 w 7 fl st ln)
 have hmm:=@run_makeMap Tryz.prog
 show Calls Tryz.prog 23 #[.agg (pyF 7 fl st ln),.slice a n c] w _
 unfold pyF
 unfold pyW rsZ pyF at S0 O0
 have HRD:=Lib.hid hr
 have HBS:=Lib.hid hb
 have HNB:=Lib.hid hnb
 clear hr hb hnb
 go_enter Tryz.func23,Tryz.ntmps23
 go_wp2_with (first
   | (refine insI rfl rfl (w.heap.size+1+1) 0 2 5 rfl rfl rfl O0.out rfl rfl rfl ?_;intro wa0 owna0 ga0;have Oa0:=Lib.hid owna0;have Sa0:=Lib.hid (S0.out.grown (by omega) ga0);clear owna0 ga0)
   | (refine insI rfl rfl (w.heap.size+1+1) 1 3 4 rfl rfl rfl Oa0.out rfl rfl rfl ?_;intro wa1 owna1 ga1;have Oa1:=Lib.hid owna1;have Sa1:=Lib.hid (Sa0.out.grown (by omega) ga1);clear owna1 ga1)
   | (refine insI rfl rfl (w.heap.size+1+1) 2 6 8 rfl rfl rfl Oa1.out rfl rfl rfl ?_;intro wa2 owna2 ga2;have Oa2:=Lib.hid owna2;have Sa2:=Lib.hid (Sa1.out.grown (by omega) ga2);clear owna2 ga2)
   | (refine insI rfl rfl (w.heap.size+1+1) 3 8 4 rfl rfl rfl Oa2.out rfl rfl rfl ?_;intro wa3 owna3 ga3;have Oa3:=Lib.hid owna3;have Sa3:=Lib.hid (Sa2.out.grown (by omega) ga3);clear owna3 ga3;have c0:wa3.cell? ⟨w.heap.size,0,none⟩=some (.int .i64 7):=blk_cell Sa3.out.F 0;have c2:wa3.cell? ⟨w.heap.size,2,none⟩=some (.int .u32 st):=blk_cell Sa3.out.F 2)
   | (refine lokI rfl rfl (w.heap.size+1+1) 4 rfl rfl Oa3.out rfl ?_;intro sza hata _;clear hata)
   | (refine insI rfl rfl wa3.heap.size 0 7 8 rfl rfl rfl (World.ownsMap_made _ _ _ _) rfl rfl rfl ?_;intro wb0 ownb0 gb0;have Ob0:=Lib.hid ownb0;have Sb0:=Lib.hid (PyS.grown (Sa3.out.alloc _) Sa3.out.lt gb0);clear ownb0 gb0)
   | (refine insI rfl rfl wa3.heap.size 1 16 4 rfl rfl rfl Ob0.out rfl rfl rfl ?_;intro wb1 ownb1 gb1;have Ob1:=Lib.hid ownb1;have Sb1:=Lib.hid (PyS.grown Sb0.out Sa3.out.lt gb1);clear ownb1 gb1;have d0:wb1.cell? ⟨w.heap.size,0,none⟩=some (.int .i64 7):=blk_cell Sb1.out.F 0;have d2:wb1.cell? ⟨w.heap.size,2,none⟩=some (.int .u32 st):=blk_cell Sb1.out.F 2)
   | (refine lokI rfl rfl wa3.heap.size 2 rfl rfl Ob1.out rfl ?_;intro szb hatb _;obtain rfl:szb=8:=(atI 8 hatb);clear hatb)
   | (go_at_call 40;refine (eitherS_any true false _).mono ?_;rintro e w5 ⟨rfl,b5⟩;have S5:=Lib.hid (Sb1.out.below b5))
   | (refine wpList_store_blk rfl 31 _ _ rfl (w.heap.size+1) rfl (rsX (Pl.eitherR true false) (.slice none 0 0) (.slice none 0 0)) rsZ rfl 31 S5.out.R (rsX_size _ _ _) (infoRX' _ _ _) (rsX_one _ _ _ _ _ _ _) ?_;intro w7 hb7 k7))
 exact ret_blk rfl (w.heap.size+1) _ _ rfl hb7 Tryz.underlying31 (infoRX' _ _ _) rfl (SpEnd.either _ _ (sp_fin S5.out.B k7))
theorem pay7_ft {w0 w:World} (fl ln:Int) {a:Option Addr} {n c:Nat} {b:List Int} (hf0:0≤fl) (hf1:fl<256) (hr:RdB w0 (.slice a n c) b) (hB:Below w0.heap.size w0 w) (hb:Bs b) (hn:n<8) :
   Calls Tryz.prog 23 #[.agg (frX (Fr.of ⟨7,fl,ln,0⟩) (.slice none 0 0) (.slice none 0 0)),.slice a n c] w (SpEnd w0 w (Pl.eitherR false true)):=by
 obtain ⟨hnb,hnc,hcm⟩:=hr.len
 have hn1:(n:Int)<8:=by omega
 have S0:=Lib.hid (pyS0 w 7 fl 0 ln)
 have O0:=Lib.hid (pyO0 w 7 fl 0 ln)
 have hmm:=@run_makeMap Tryz.prog
 show Calls Tryz.prog 23 #[.agg (pyF 7 fl 0 ln),.slice a n c] w _
 unfold pyF
 unfold pyW rsZ pyF at S0 O0
 have HRD:=Lib.hid hr
 have HBS:=Lib.hid hb
 have HNB:=Lib.hid hnb
 clear hr hb hnb
 go_enter Tryz.func23,Tryz.ntmps23
 go_wp2_with (first
   | (refine insI rfl rfl (w.heap.size+1+1) 0 2 5 rfl rfl rfl O0.out rfl rfl rfl ?_;intro wa0 owna0 ga0;have Oa0:=Lib.hid owna0;have Sa0:=Lib.hid (S0.out.grown (by omega) ga0);clear owna0 ga0)
   | (refine insI rfl rfl (w.heap.size+1+1) 1 3 4 rfl rfl rfl Oa0.out rfl rfl rfl ?_;intro wa1 owna1 ga1;have Oa1:=Lib.hid owna1;have Sa1:=Lib.hid (Sa0.out.grown (by omega) ga1);clear owna1 ga1)
   | (refine insI rfl rfl (w.heap.size+1+1) 2 6 8 rfl rfl rfl Oa1.out rfl rfl rfl ?_;intro wa2 owna2 ga2;have Oa2:=Lib.hid owna2;have Sa2:=Lib.hid (Sa1.out.grown (by omega) ga2);clear owna2 ga2)
   | (refine insI rfl rfl (w.heap.size+1+1) 3 8 4 rfl rfl rfl Oa2.out rfl rfl rfl ?_;intro wa3 owna3 ga3;have Oa3:=Lib.hid owna3;have Sa3:=Lib.hid (Sa2.out.grown (by omega) ga3);clear owna3 ga3;have c0:wa3.cell? ⟨w.heap.size,0,none⟩=some (.int .i64 7):=blk_cell Sa3.out.F 0;have c2:wa3.cell? ⟨w.heap.size,2,none⟩=some (.int .u32 0):=blk_cell Sa3.out.F 2)
   | (refine lokI rfl rfl (w.heap.size+1+1) 4 rfl rfl Oa3.out rfl ?_;intro sza hata _;clear hata)
   | (refine insI rfl rfl wa3.heap.size 0 7 8 rfl rfl rfl (World.ownsMap_made _ _ _ _) rfl rfl rfl ?_;intro wb0 ownb0 gb0;have Ob0:=Lib.hid ownb0;have Sb0:=Lib.hid (PyS.grown (Sa3.out.alloc _) Sa3.out.lt gb0);clear ownb0 gb0)
   | (refine insI rfl rfl wa3.heap.size 1 16 4 rfl rfl rfl Ob0.out rfl rfl rfl ?_;intro wb1 ownb1 gb1;have Ob1:=Lib.hid ownb1;have Sb1:=Lib.hid (PyS.grown Sb0.out Sa3.out.lt gb1);clear ownb1 gb1;have d0:wb1.cell? ⟨w.heap.size,0,none⟩=some (.int .i64 7):=blk_cell Sb1.out.F 0;have d2:wb1.cell? ⟨w.heap.size,2,none⟩=some (.int .u32 0):=blk_cell Sb1.out.F 2)
   | (refine lokI rfl rfl wa3.heap.size 2 rfl rfl Ob1.out rfl ?_;intro szb hatb _;obtain rfl:szb=8:=(atI 8 hatb);clear hatb)
   | (go_at_call 40;refine (eitherS_any false true _).mono ?_;rintro e w5 ⟨rfl,b5⟩;have S5:=Lib.hid (Sb1.out.below b5))
   | (refine wpList_store_blk rfl 31 _ _ rfl (w.heap.size+1) rfl (rsX (Pl.eitherR false true) (.slice none 0 0) (.slice none 0 0)) rsZ rfl 31 S5.out.R (rsX_size _ _ _) (infoRX' _ _ _) (rsX_one _ _ _ _ _ _ _) ?_;intro w7 hb7 k7))
 exact ret_blk rfl (w.heap.size+1) _ _ rfl hb7 Tryz.underlying31 (infoRX' _ _ _) rfl (SpEnd.either _ _ (sp_fin S5.out.B k7))
theorem pay16_tt {w0 w:World} (fl st ln:Int) {a:Option Addr} {n c:Nat} {b:List Int} (hf0:0≤fl) (hf1:fl<256) (hr:RdB w0 (.slice a n c) b) (hB:Below w0.heap.size w0 w) (hb:Bs b) (hs:st≠0) (hn:n<4) :
   Calls Tryz.prog 23 #[.agg (frX (Fr.of ⟨16,fl,ln,st⟩) (.slice none 0 0) (.slice none 0 0)),.slice a n c] w (SpEnd w0 w (Pl.eitherR true true)):=by
 obtain ⟨hnb,hnc,hcm⟩:=hr.len
 have hs1:(st != 0)=true:=by simpa using hs
 have hs2:(st==0)=false:=beq_false_of_ne hs
 have hn1:(n:Int)<4:=by omega
 have S0:=Lib.hid (pyS0 w 16 fl st ln)
 have O0:=Lib.hid (pyO0 w 16 fl st ln)
 have hmm:=@run_makeMap Tryz.prog
 show Calls Tryz.prog 23 #[.agg (pyF 16 fl st ln),.slice a n c] w _
 unfold pyF
 unfold pyW rsZ pyF at S0 O0
 have HRD:=Lib.hid hr
 have HBS:=Lib.hid hb
 have HNB:=Lib.hid hnb
 clear hr hb hnb
 go_enter Tryz.func23,Tryz.ntmps23
 go_wp2_with (first
   | (refine insI rfl rfl (w.heap.size+1+1) 0 2 5 rfl rfl rfl O0.out rfl rfl rfl ?_;intro wa0 owna0 ga0;have Oa0:=Lib.hid owna0;have Sa0:=Lib.hid (S0.out.grown (by omega) ga0);clear owna0 ga0)
   | (refine insI rfl rfl (w.heap.size+1+1) 1 3 4 rfl rfl rfl Oa0.out rfl rfl rfl ?_;intro wa1 owna1 ga1;have Oa1:=Lib.hid owna1;have Sa1:=Lib.hid (Sa0.out.grown (by omega) ga1);clear owna1 ga1)
   | (refine insI rfl rfl (w.heap.size+1+1) 2 6 8 rfl rfl rfl Oa1.out rfl rfl rfl ?_;intro wa2 owna2 ga2;have Oa2:=Lib.hid owna2;have Sa2:=Lib.hid (Sa1.out.grown (by omega) ga2);clear owna2 ga2)
   | (refine insI rfl rfl (w.heap.size+1+1) 3 8 4 rfl rfl rfl Oa2.out rfl rfl rfl ?_;intro wa3 owna3 ga3;have Oa3:=Lib.hid owna3;have Sa3:=Lib.hid (Sa2.out.grown (by omega) ga3);clear owna3 ga3;have c0:wa3.cell? ⟨w.heap.size,0,none⟩=some (.int .i64 16):=blk_cell Sa3.out.F 0;have c2:wa3.cell? ⟨w.heap.size,2,none⟩=some (.int .u32 st):=blk_cell Sa3.out.F 2)
   | (refine lokI rfl rfl (w.heap.size+1+1) 4 rfl rfl Oa3.out rfl ?_;intro sza hata _;clear hata)
   | (refine insI rfl rfl wa3.heap.size 0 7 8 rfl rfl rfl (World.ownsMap_made _ _ _ _) rfl rfl rfl ?_;intro wb0 ownb0 gb0;have Ob0:=Lib.hid ownb0;have Sb0:=Lib.hid (PyS.grown (Sa3.out.alloc _) Sa3.out.lt gb0);clear ownb0 gb0)
   | (refine insI rfl rfl wa3.heap.size 1 16 4 rfl rfl rfl Ob0.out rfl rfl rfl ?_;intro wb1 ownb1 gb1;have Ob1:=Lib.hid ownb1;have Sb1:=Lib.hid (PyS.grown Sb0.out Sa3.out.lt gb1);clear ownb1 gb1;have d0:wb1.cell? ⟨w.heap.size,0,none⟩=some (.int .i64 16):=blk_cell Sb1.out.F 0;have d2:wb1.cell? ⟨w.heap.size,2,none⟩=some (.int .u32 st):=blk_cell Sb1.out.F 2)
   | (refine lokI rfl rfl wa3.heap.size 2 rfl rfl Ob1.out rfl ?_;intro szb hatb _;obtain rfl:szb=4:=(atI 4 hatb);clear hatb)
   | (go_at_call 40;refine (eitherS_any true true _).mono ?_;rintro e w5 ⟨rfl,b5⟩;have S5:=Lib.hid (Sb1.out.below b5))
   | (refine wpList_store_blk rfl 31 _ _ rfl (w.heap.size+1) rfl (rsX (Pl.eitherR true true) (.slice none 0 0) (.slice none 0 0)) rsZ rfl 31 S5.out.R (rsX_size _ _ _) (infoRX' _ _ _) (rsX_one _ _ _ _ _ _ _) ?_;intro w7 hb7 k7))
 exact ret_blk rfl (w.heap.size+1) _ _ rfl hb7 Tryz.underlying31 (infoRX' _ _ _) rfl (SpEnd.either _ _ (sp_fin S5.out.B k7))
theorem pay16_tf {w0 w:World} (fl st ln:Int) {a:Option Addr} {n c:Nat} {b:List Int} (hf0:0≤fl) (hf1:fl<256) (hr:RdB w0 (.slice a n c) b) (hB:Below w0.heap.size w0 w) (hb:Bs b) (hs:st≠0) (hn:¬n<4) :
   Calls Tryz.prog 23 #[.agg (frX (Fr.of ⟨16,fl,ln,st⟩) (.slice none 0 0) (.slice none 0 0)),.slice a n c] w (SpEnd w0 w (Pl.eitherR true false)):=by
 obtain ⟨hnb,hnc,hcm⟩:=hr.len
 have hs1:(st != 0)=true:=by simpa using hs
 have hs2:(st==0)=false:=beq_false_of_ne hs
 have hn1:¬(n:Int)<4:=by omega
 have S0:=Lib.hid (pyS0 w 16 fl st ln)
 have O0:=Lib.hid (pyO0 w 16 fl st ln)
 have hmm:=@run_makeMap Tryz.prog
 show Calls Tryz.prog 23 #[.agg (pyF 16 fl st ln),.slice a n c] w _
 unfold pyF
 unfold pyW rsZ pyF at S0 O0
 have HRD:=Lib.hid hr
 have HBS:=Lib.hid hb
 have HNB:=Lib.hid hnb
 clear hr hb hnb
 go_enter Tryz.func23,Tryz.ntmps23
 go_wp2_with (first
   | (refine insI rfl rfl (w.heap.size+1+1) 0 2 5 rfl rfl rfl O0.out rfl rfl rfl ?_;intro wa0 owna0 ga0;have Oa0:=Lib.hid owna0;have Sa0:=Lib.hid (S0.out.grown (by omega) ga0);clear owna0 ga0)
   | (refine insI rfl rfl (w.heap.size+1+1) 1 3 4 rfl rfl rfl Oa0.out rfl rfl rfl ?_;intro wa1 owna1 ga1;have Oa1:=Lib.hid owna1;have Sa1:=Lib.hid (Sa0.out.grown (by omega) ga1);clear owna1 ga1)
   | (refine insI rfl rfl (w.heap.size+1+1) 2 6 8 rfl rfl rfl Oa1.out rfl rfl rfl ?_;intro wa2 owna2 ga2;have Oa2:=Lib.hid owna2;have Sa2:=Lib.hid (Sa1.out.grown (by omega) ga2);clear owna2 ga2)
   | (refine insI rfl rfl (w.heap.size+1+1) 3 8 4 rfl rfl rfl Oa2.out rfl rfl rfl ?_;intro wa3 owna3 ga3;have Oa3:=Lib.hid owna3;have Sa3:=Lib.hid (Sa2.out.grown (by omega) ga3);clear owna3 ga3;have c0:wa3.cell? ⟨w.heap.size,0,none⟩=some (.int .i64 16):=blk_cell Sa3.out.F 0;have c2:wa3.cell? ⟨w.heap.size,2,none⟩=some (.int .u32 st):=blk_cell Sa3.out.F 2)
   | (refine lokI rfl rfl (w.heap.size+1+1) 4 rfl rfl Oa3.out rfl ?_;intro sza hata _;clear hata)
   | (refine insI rfl rfl wa3.heap.size 0 7 8 rfl rfl rfl (World.ownsMap_made _ _ _ _) rfl rfl rfl ?_;intro wb0 ownb0 gb0;have Ob0:=Lib.hid ownb0;have Sb0:=Lib.hid (PyS.grown (Sa3.out.alloc _) Sa3.out.lt gb0);clear ownb0 gb0)
   | (refine insI rfl rfl wa3.heap.size 1 16 4 rfl rfl rfl Ob0.out rfl rfl rfl ?_;intro wb1 ownb1 gb1;have Ob1:=Lib.hid ownb1;have Sb1:=Lib.hid (PyS.grown Sb0.out Sa3.out.lt gb1);clear ownb1 gb1;have d0:wb1.cell? ⟨w.heap.size,0,none⟩=some (.int .i64 16):=blk_cell Sb1.out.F 0;have d2:wb1.cell? ⟨w.heap.size,2,none⟩=some (.int .u32 st):=blk_cell Sb1.out.F 2)
   | (refine lokI rfl rfl wa3.heap.size 2 rfl rfl Ob1.out rfl ?_;intro szb hatb _;obtain rfl:szb=4:=(atI 4 hatb);clear hatb)
   | (go_at_call 40;refine (eitherS_any true false _).mono ?_;rintro e w5 ⟨rfl,b5⟩;have S5:=Lib.hid (Sb1.out.below b5))
   | (refine wpList_store_blk rfl 31 _ _ rfl (w.heap.size+1) rfl (rsX (Pl.eitherR true false) (.slice none 0 0) (.slice none 0 0)) rsZ rfl 31 S5.out.R (rsX_size _ _ _) (infoRX' _ _ _) (rsX_one _ _ _ _ _ _ _) ?_;intro w7 hb7 k7))
 exact ret_blk rfl (w.heap.size+1) _ _ rfl hb7 Tryz.underlying31 (infoRX' _ _ _) rfl (SpEnd.either _ _ (sp_fin S5.out.B k7))
theorem pay16_ft {w0 w:World} (fl ln:Int) {a:Option Addr} {n c:Nat} {b:List Int} (hf0:0≤fl) (hf1:fl<256) (hr:RdB w0 (.slice a n c) b) (hB:Below w0.heap.size w0 w) (hb:Bs b) (hn:n<4) :
   Calls Tryz.prog 23 #[.agg (frX (Fr.of ⟨16,fl,ln,0⟩) (.slice none 0 0) (.slice none 0 0)),.slice a n c] w (SpEnd w0 w (Pl.eitherR false true)):=by
 obtain ⟨hnb,hnc,hcm⟩:=hr.len
 have hn1:(n:Int)<4:=by omega
 have S0:=Lib.hid (pyS0 w 16 fl 0 ln)
 have O0:=Lib.hid (pyO0 w 16 fl 0 ln)
 have hmm:=@run_makeMap Tryz.prog
 show Calls Tryz.prog 23 #[.agg (pyF 16 fl 0 ln),.slice a n c] w _
 unfold pyF
 unfold pyW rsZ pyF at S0 O0
 have HRD:=Lib.hid hr
 have HBS:=Lib.hid hb
 have HNB:=Lib.hid hnb
 clear hr hb hnb
 go_enter Tryz.func23,Tryz.ntmps23
 go_wp2_with (first
   | (refine insI rfl rfl (w.heap.size+1+1) 0 2 5 rfl rfl rfl O0.out rfl rfl rfl ?_;intro wa0 owna0 ga0;have Oa0:=Lib.hid owna0;have Sa0:=Lib.hid (S0.out.grown (by omega) ga0);clear owna0 ga0)
   | (refine insI rfl rfl (w.heap.size+1+1) 1 3 4 rfl rfl rfl Oa0.out rfl rfl rfl ?_;intro wa1 owna1 ga1;have Oa1:=Lib.hid owna1;have Sa1:=Lib.hid (Sa0.out.grown (by omega) ga1);clear owna1 ga1)
   | (refine insI rfl rfl (w.heap.size+1+1) 2 6 8 rfl rfl rfl Oa1.out rfl rfl rfl ?_;intro wa2 owna2 ga2;have Oa2:=Lib.hid owna2;have Sa2:=Lib.hid (Sa1.out.grown (by omega) ga2);clear owna2 ga2)
   | (refine insI rfl rfl (w.heap.size+1+1) 3 8 4 rfl rfl rfl Oa2.out rfl rfl rfl ?_;intro wa3 owna3 ga3;have Oa3:=Lib.hid owna3;have Sa3:=Lib.hid (Sa2.out.grown (by omega) ga3);clear owna3 ga3;have c0:wa3.cell? ⟨w.heap.size,0,none⟩=some (.int .i64 16):=blk_cell Sa3.out.F 0;have c2:wa3.cell? ⟨w.heap.size,2,none⟩=some (.int .u32 0):=blk_cell Sa3.out.F 2)
   | (refine lokI rfl rfl (w.heap.size+1+1) 4 rfl rfl Oa3.out rfl ?_;intro sza hata _;clear hata)
   | (refine insI rfl rfl wa3.heap.size 0 7 8 rfl rfl rfl (World.ownsMap_made _ _ _ _) rfl rfl rfl ?_;intro wb0 ownb0 gb0;have Ob0:=Lib.hid ownb0;have Sb0:=Lib.hid (PyS.grown (Sa3.out.alloc _) Sa3.out.lt gb0);clear ownb0 gb0)
   | (refine insI rfl rfl wa3.heap.size 1 16 4 rfl rfl rfl Ob0.out rfl rfl rfl ?_;intro wb1 ownb1 gb1;have Ob1:=Lib.hid ownb1;have Sb1:=Lib.hid (PyS.grown Sb0.out Sa3.out.lt gb1);clear ownb1 gb1;have d0:wb1.cell? ⟨w.heap.size,0,none⟩=some (.int .i64 16):=blk_cell Sb1.out.F 0;have d2:wb1.cell? ⟨w.heap.size,2,none⟩=some (.int .u32 0):=blk_cell Sb1.out.F 2)
   | (refine lokI rfl rfl wa3.heap.size 2 rfl rfl Ob1.out rfl ?_;intro szb hatb _;obtain rfl:szb=4:=(atI 4 hatb);clear hatb)
   | (go_at_call 40;refine (eitherS_any false true _).mono ?_;rintro e w5 ⟨rfl,b5⟩;have S5:=Lib.hid (Sb1.out.below b5))
   | (refine wpList_store_blk rfl 31 _ _ rfl (w.heap.size+1) rfl (rsX (Pl.eitherR false true) (.slice none 0 0) (.slice none 0 0)) rsZ rfl 31 S5.out.R (rsX_size _ _ _) (infoRX' _ _ _) (rsX_one _ _ _ _ _ _ _) ?_;intro w7 hb7 k7))
 exact ret_blk rfl (w.heap.size+1) _ _ rfl hb7 Tryz.underlying31 (infoRX' _ _ _) rfl (SpEnd.either _ _ (sp_fin S5.out.B k7))
end Go.Proofs.YtfdlbjibninakaaGreatDoor

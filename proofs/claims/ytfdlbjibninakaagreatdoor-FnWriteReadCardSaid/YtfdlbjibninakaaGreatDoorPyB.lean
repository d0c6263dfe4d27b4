/- The reference's reading: the payload of a frame (2: frames). -/
import Derived.Test.YtfdlbjibninakaaGreatDoorSp4
import Derived.Test.YtfdlbjibninakaaGreatDoorPyA
import Derived.Outline
import Derived.Deep.CutRange
set_option linter.unusedVariables false
set_option linter.unusedSimpArgs false
namespace Go.Proofs.YtfdlbjibninakaaGreatDoor
set_option maxRecDepth 100000
set_option maxHeartbeats 1000000
open Go.RowKit Go.Maps
theorem pay4 {w0 w:World} (fl st ln:Int) {a:Option Addr} {n c:Nat} {b:List Int} (hf0:0≤fl) (hf1:fl<256) (hr:RdB w0 (.slice a n c) b) (hB:Below w0.heap.size w0 w) (hb:Bs b) (hn:n≤16777216) :
   Calls Tryz.prog 23 #[.agg (frX (Fr.of ⟨4,fl,ln,st⟩) (.slice none 0 0) (.slice none 0 0)),.slice a n c] w (SpEnd w0 w (Pl.sSettings ⟨4,fl,ln,st⟩ b)):=by
 obtain ⟨hnb,hnc,hcm⟩:=hr.len
 have S0:=Lib.hid (pyS0 w 4 fl st ln)
 have O0:=Lib.hid (pyO0 w 4 fl st ln)
 have hmm:=@run_makeMap Tryz.prog
 show Calls Tryz.prog 23 #[.agg (pyF 4 fl st ln),.slice a n c] w _
 unfold pyF
 unfold pyW rsZ pyF at S0 O0
 have HRD:=Lib.hid hr
 have HBS:=Lib.hid hb
 have HNB:=Lib.hid hnb
 clear hr hb hnb
 go_enter Tryz.func23,Tryz.ntmps23
 go_wp2_with (first
   | (refine insI rfl rfl (w.heap.size+1+1) 0 2 5 rfl rfl rfl O0.out rfl rfl rfl ?_;intro wa0 owna0 ga0;have Oa0:=Lib.hid owna0;have Sa0:=Lib.hid (S0.out.grown (by omega) ga0);clear owna0 ga0)
   | (refine insI rfl rfl (w.heap.size+1+1) 1 3 4 rfl rfl rfl Oa0.out rfl rfl rfl ?_;intro wa1 owna1 ga1;have Oa1:=Lib.hid owna1;have Sa1:=Lib.hid (Sa0.out.grown (by omega) ga1);clear owna1 ga1)
   | (refine insI rfl rfl (w.heap.size+1+1) 2 6 8 rfl rfl rfl Oa1.out rfl rfl rfl ?_;intro wa2 owna2 ga2;have Oa2:=Lib.hid owna2;have Sa2:=Lib.hid (Sa1.out.grown (by omega) ga2);clear owna2 ga2)
   | (refine insI rfl rfl (w.heap.size+1+1) 3 8 4 rfl rfl rfl Oa2.out rfl rfl rfl ?_;intro wa3 owna3 ga3;have Oa3:=Lib.hid owna3;have Sa3:=Lib.hid (Sa2.out.grown (by omega) ga3);clear owna3 ga3;have c0:wa3.cell? ⟨w.heap.size,0,none⟩=some (.int .i64 4):=blk_cell Sa3.out.F 0;have c2:wa3.cell? ⟨w.heap.size,2,none⟩=some (.int .u32 st):=blk_cell Sa3.out.F 2)
   | (refine lokI rfl rfl (w.heap.size+1+1) 4 rfl rfl Oa3.out rfl ?_;intro sza hata _;clear hata)
   | (refine wpList_load_blk rfl 29 _ rfl w.heap.size rfl (frX (Fr.of ⟨4,fl,ln,st⟩) (.slice none 0 0) (.slice none 0 0)) 29 Sa3.out.F Tryz.underlying29 (infoFsX _ _ _) ?_)
   | (go_at_call 39;refine (settings_any fl ln st hf0 hf1 HRD.out (hB.trans (Sa3.out.B.mono hB.size)) HBS.out hn).mono ?_;rintro e w5 ⟨dv,sv,rfl,b5,hd5,hs5,hk5⟩;have S5:=Lib.hid (Sa3.out.below b5);have HD5:=Lib.hid hd5;have HS5:=Lib.hid hs5;obtain ⟨da,dc,rfl,-,-,-⟩:=hd5;obtain ⟨sa,sc,rfl,-,-,-⟩:=hs5)
   | (refine wpList_store_blk rfl 31 _ _ rfl (w.heap.size+1) rfl (rsX (Pl.sSettings ⟨4,fl,ln,st⟩ b) (.slice da (Pl.sSettings ⟨4,fl,ln,st⟩ b).x.data.length dc) (.slice sa (Pl.sSettings ⟨4,fl,ln,st⟩ b).x.set.length sc)) rsZ rfl 31 S5.out.R (rsX_size _ _ _) (infoRX' _ _ _) (rsX_one _ _ _ _ _ _ _) ?_;intro w7 hb7 k7))
 refine ret_blk rfl (w.heap.size+1) _ _ rfl hb7 Tryz.underlying31 (infoRX' _ _ _) rfl ⟨_,_,rfl,sp_fin S5.out.B k7,HD5.out,?_,?_⟩
 · refine HS5.out.kept k7 (hk5.mono' fun k hk e => ?_)
   have:=Sa3.out.lt
   omega
 · exact hk5.mono' fun k hk=>Nat.le_trans Sa3.out.B.size hk
theorem pay1_frag {w0 w:World} (fl st ln:Int) {a:Option Addr} {n c:Nat} {b:List Int} (hf0:0≤fl) (hf1:fl<256) (hr:RdB w0 (.slice a n c) b) (hB:Below w0.heap.size w0 w) (hb:Bs b) (hs:st≠0) :
   Calls Tryz.prog 23 #[.agg (frX (Fr.of ⟨1,fl,ln,st⟩) (.slice none 0 0) (.slice none 0 0)),.slice a n c] w (SpEnd w0 w (Pl.sFrag ⟨1,fl,ln,st⟩ b)):=by
 obtain ⟨hnb,hnc,hcm⟩:=hr.len
 have hs1:(st != 0)=true:=by simpa using hs
 have hs2:(st==0)=false:=beq_false_of_ne hs
 have S0:=Lib.hid (pyS0 w 1 fl st ln)
 have O0:=Lib.hid (pyO0 w 1 fl st ln)
 have hmm:=@run_makeMap Tryz.prog
 show Calls Tryz.prog 23 #[.agg (pyF 1 fl st ln),.slice a n c] w _
 unfold pyF
 unfold pyW rsZ pyF at S0 O0
 have HRD:=Lib.hid hr
 have HBS:=Lib.hid hb
 have HNB:=Lib.hid hnb
 clear hr hb hnb
 go_enter Tryz.func23,Tryz.ntmps23
 go_wp2_with (first
   | (refine insI rfl rfl (w.heap.size+1+1) 0 2 5 rfl rfl rfl O0.out rfl rfl rfl ?_;intro wa0 owna0 ga0;have Oa0:=Lib.hid owna0;have Sa0:=Lib.hid (S0.out.grown (by omega) ga0);clear owna0 ga0)
   | (refine insI rfl rfl (w.heap.size+1+1) 1 3 4 rfl rfl rfl Oa0.out rfl rfl rfl ?_;intro wa1 owna1 ga1;have Oa1:=Lib.hid owna1;have Sa1:=Lib.hid (Sa0.out.grown (by omega) ga1);clear owna1 ga1)
   | (refine insI rfl rfl (w.heap.size+1+1) 2 6 8 rfl rfl rfl Oa1.out rfl rfl rfl ?_;intro wa2 owna2 ga2;have Oa2:=Lib.hid owna2;have Sa2:=Lib.hid (Sa1.out.grown (by omega) ga2);clear owna2 ga2)
   | (refine insI rfl rfl (w.heap.size+1+1) 3 8 4 rfl rfl rfl Oa2.out rfl rfl rfl ?_;intro wa3 owna3 ga3;have Oa3:=Lib.hid owna3;have Sa3:=Lib.hid (Sa2.out.grown (by omega) ga3);clear owna3 ga3;have c0:wa3.cell? ⟨w.heap.size,0,none⟩=some (.int .i64 1):=blk_cell Sa3.out.F 0;have c2:wa3.cell? ⟨w.heap.size,2,none⟩=some (.int .u32 st):=blk_cell Sa3.out.F 2)
   | (refine lokI rfl rfl (w.heap.size+1+1) 4 rfl rfl Oa3.out rfl ?_;intro sza hata _;clear hata)
   | (refine wpList_load_blk rfl 29 _ rfl w.heap.size rfl (frX (Fr.of ⟨1,fl,ln,st⟩) (.slice none 0 0) (.slice none 0 0)) 29 Sa3.out.F Tryz.underlying29 (infoFsX _ _ _) ?_)
   | (go_at_call 42;refine (fragment_any 1 fl ln st hf0 hf1 HRD.out (hB.trans (Sa3.out.B.mono hB.size)) HBS.out).mono ?_;rintro e w5 ⟨dv,sv,rfl,b5,hd5,hs5,hk5⟩;have S5:=Lib.hid (Sa3.out.below b5);have HD5:=Lib.hid hd5;have HS5:=Lib.hid hs5;obtain ⟨da,dc,rfl,-,-,-⟩:=hd5;obtain ⟨sa,sc,rfl,-,-,-⟩:=hs5)
   | (refine wpList_store_blk rfl 31 _ _ rfl (w.heap.size+1) rfl (rsX (Pl.sFrag ⟨1,fl,ln,st⟩ b) (.slice da (Pl.sFrag ⟨1,fl,ln,st⟩ b).x.data.length dc) (.slice sa (Pl.sFrag ⟨1,fl,ln,st⟩ b).x.set.length sc)) rsZ rfl 31 S5.out.R (rsX_size _ _ _) (infoRX' _ _ _) (rsX_one _ _ _ _ _ _ _) ?_;intro w7 hb7 k7))
 refine ret_blk rfl (w.heap.size+1) _ _ rfl hb7 Tryz.underlying31 (infoRX' _ _ _) rfl ⟨_,_,rfl,sp_fin S5.out.B k7,HD5.out,?_,?_⟩
 · refine HS5.out.kept k7 (hk5.mono' fun k hk e => ?_)
   have:=Sa3.out.lt
   omega
 · exact hk5.mono' fun k hk=>Nat.le_trans Sa3.out.B.size hk
theorem pay5_frag {w0 w:World} (fl st ln:Int) {a:Option Addr} {n c:Nat} {b:List Int} (hf0:0≤fl) (hf1:fl<256) (hr:RdB w0 (.slice a n c) b) (hB:Below w0.heap.size w0 w) (hb:Bs b) (hs:st≠0) :
   Calls Tryz.prog 23 #[.agg (frX (Fr.of ⟨5,fl,ln,st⟩) (.slice none 0 0) (.slice none 0 0)),.slice a n c] w (SpEnd w0 w (Pl.sFrag ⟨5,fl,ln,st⟩ b)):=by
 obtain ⟨hnb,hnc,hcm⟩:=hr.len
 have hs1:(st != 0)=true:=by simpa using hs
 have hs2:(st==0)=false:=beq_false_of_ne hs
 have S0:=Lib.hid (pyS0 w 5 fl st ln)
 have O0:=Lib.hid (pyO0 w 5 fl st ln)
 have hmm:=@run_makeMap Tryz.prog
 show Calls Tryz.prog 23 #[.agg (pyF 5 fl st ln),.slice a n c] w _
 unfold pyF
 unfold pyW rsZ pyF at S0 O0
 have HRD:=Lib.hid hr
 have HBS:=Lib.hid hb
 have HNB:=Lib.hid hnb
 clear hr hb hnb
 go_enter Tryz.func23,Tryz.ntmps23
 go_wp2_with (first
   | (refine insI rfl rfl (w.heap.size+1+1) 0 2 5 rfl rfl rfl O0.out rfl rfl rfl ?_;intro wa0 owna0 ga0;have Oa0:=Lib.hid owna0;have Sa0:=Lib.hid (S0.out.grown (by omega) ga0);clear owna0 ga0)
   | (refine insI rfl rfl (w.heap.size+1+1) 1 3 4 rfl rfl rfl Oa0.out rfl rfl rfl ?_;intro wa1 owna1 ga1;have Oa1:=Lib.hid owna1;have Sa1:=Lib.hid (Sa0.out.grown (by omega) ga1);clear owna1 ga1)
   | (refine insI rfl rfl (w.heap.size+1+1) 2 6 8 rfl rfl rfl Oa1.out rfl rfl rfl ?_;intro wa2 owna2 ga2;have Oa2:=Lib.hid owna2;have Sa2:=Lib.hid (Sa1.out.grown (by omega) ga2);clear owna2 ga2)
   | (refine insI rfl rfl (w.heap.size+1+1) 3 8 4 rfl rfl rfl Oa2.out rfl rfl rfl ?_;intro wa3 owna3 ga3;have Oa3:=Lib.hid owna3;have Sa3:=Lib.hid (Sa2.out.grown (by omega) ga3);clear owna3 ga3;have c0:wa3.cell? ⟨w.heap.size,0,none⟩=some (.int .i64 5):=blk_cell Sa3.out.F 0;have c2:wa3.cell? ⟨w.heap.size,2,none⟩=some (.int .u32 st):=blk_cell Sa3.out.F 2)
   | (refine lokI rfl rfl (w.heap.size+1+1) 4 rfl rfl Oa3.out rfl ?_;intro sza hata _;clear hata)
   | (refine wpList_load_blk rfl 29 _ rfl w.heap.size rfl (frX (Fr.of ⟨5,fl,ln,st⟩) (.slice none 0 0) (.slice none 0 0)) 29 Sa3.out.F Tryz.underlying29 (infoFsX _ _ _) ?_)
   | (go_at_call 42;refine (fragment_any 5 fl ln st hf0 hf1 HRD.out (hB.trans (Sa3.out.B.mono hB.size)) HBS.out).mono ?_;rintro e w5 ⟨dv,sv,rfl,b5,hd5,hs5,hk5⟩;have S5:=Lib.hid (Sa3.out.below b5);have HD5:=Lib.hid hd5;have HS5:=Lib.hid hs5;obtain ⟨da,dc,rfl,-,-,-⟩:=hd5;obtain ⟨sa,sc,rfl,-,-,-⟩:=hs5)
   | (refine wpList_store_blk rfl 31 _ _ rfl (w.heap.size+1) rfl (rsX (Pl.sFrag ⟨5,fl,ln,st⟩ b) (.slice da (Pl.sFrag ⟨5,fl,ln,st⟩ b).x.data.length dc) (.slice sa (Pl.sFrag ⟨5,fl,ln,st⟩ b).x.set.length sc)) rsZ rfl 31 S5.out.R (rsX_size _ _ _) (infoRX' _ _ _) (rsX_one _ _ _ _ _ _ _) ?_;intro w7 hb7 k7))
 refine ret_blk rfl (w.heap.size+1) _ _ rfl hb7 Tryz.underlying31 (infoRX' _ _ _) rfl ⟨_,_,rfl,sp_fin S5.out.B k7,HD5.out,?_,?_⟩
 · refine HS5.out.kept k7 (hk5.mono' fun k hk e => ?_)
   have:=Sa3.out.lt
   omega
 · exact hk5.mono' fun k hk=>Nat.le_trans Sa3.out.B.size hk
theorem pay6_ok {w0 w:World} (fl ln:Int) {a:Option Addr} {n c:Nat} {b:List Int} (hf0:0≤fl) (hf1:fl<256) (hr:RdB w0 (.slice a n c) b) (hB:Below w0.heap.size w0 w) (hb:Bs b) (hn:n=8) :
   Calls Tryz.prog 23 #[.agg (frX (Fr.of ⟨6,fl,ln,0⟩) (.slice none 0 0) (.slice none 0 0)),.slice a n c] w (SpEnd w0 w (.ok { Fr.of ⟨6,fl,ln,0⟩ with data:=b })):=by
 obtain ⟨hnb,hnc,hcm⟩:=hr.len
 have hn1:((n:Int) != 8)=false:=by simp;omega
 clear hn
 have S0:=Lib.hid (pyS0 w 6 fl 0 ln)
 have O0:=Lib.hid (pyO0 w 6 fl 0 ln)
 have hmm:=@run_makeMap Tryz.prog
 show Calls Tryz.prog 23 #[.agg (pyF 6 fl 0 ln),.slice a n c] w _
 unfold pyF
 unfold pyW rsZ pyF at S0 O0
 have HRD:=Lib.hid hr
 have HBS:=Lib.hid hb
 have HNB:=Lib.hid hnb
 clear hr hb hnb
 go_enter Tryz.func23,Tryz.ntmps23
 go_wp2_with (first
   | (refine insI rfl rfl (w.heap.size+1+1) 0 2 5 rfl rfl rfl O0.out rfl rfl rfl ?_;intro wa0 owna0 ga0;have Oa0:=Lib.hid owna0;have Sa0:=Lib.hid (S0.out.grown (by omega) ga0);clear owna0 ga0)
   | (refine insI rfl rfl (w.heap.size+1+1) 1 3 4 rfl rfl rfl Oa0.out rfl rfl rfl ?_;intro wa1 owna1 ga1;have Oa1:=Lib.hid owna1;have Sa1:=Lib.hid (Sa0.out.grown (by omega) ga1);clear owna1 ga1)
   | (refine insI rfl rfl (w.heap.size+1+1) 2 6 8 rfl rfl rfl Oa1.out rfl rfl rfl ?_;intro wa2 owna2 ga2;have Oa2:=Lib.hid owna2;have Sa2:=Lib.hid (Sa1.out.grown (by omega) ga2);clear owna2 ga2)
   | (refine insI rfl rfl (w.heap.size+1+1) 3 8 4 rfl rfl rfl Oa2.out rfl rfl rfl ?_;intro wa3 owna3 ga3;have Oa3:=Lib.hid owna3;have Sa3:=Lib.hid (Sa2.out.grown (by omega) ga3);clear owna3 ga3;have c0:wa3.cell? ⟨w.heap.size,0,none⟩=some (.int .i64 6):=blk_cell Sa3.out.F 0;have c2:wa3.cell? ⟨w.heap.size,2,none⟩=some (.int .u32 0):=blk_cell Sa3.out.F 2)
   | (refine lokI rfl rfl (w.heap.size+1+1) 4 rfl rfl Oa3.out rfl ?_;intro sza hata _;obtain rfl:sza=8:=(atI 8 hata);clear hata)
   | (refine wpList_store_cell rfl 22 _ _ rfl w.heap.size 4 rfl (.slice a n c) rfl rfl infoSl _ 29 Sa3.out.F (frX_lt (by decide)) ?_;intro w6 hF6 k6;rw [frX_data] at hF6;have T6:=Lib.hid (Sa3.out.put hF6 k6);clear hF6 k6)
   | (refine wpList_load_blk rfl 29 _ rfl w.heap.size rfl (frX (Fr.of ⟨6,fl,ln,0⟩) (.slice a n c) (.slice none 0 0)) 29 T6.out.F Tryz.underlying29 (infoFsX _ _ _) ?_)
   | (refine wpList_build_rs rfl _ rfl (frX (Fr.of ⟨6,fl,ln,0⟩) (.slice a n c) (.slice none 0 0)) rfl (frX_size14 _ _ _) ?_)
   | (refine wpList_store_blk rfl 31 _ _ rfl (w.heap.size+1) rfl (rsC 0 0 0 (frX (Fr.of ⟨6,fl,ln,0⟩) (.slice a n c) (.slice none 0 0))) rsZ rfl 31 T6.out.R (rsC_size _ _ _ _ _ _) (infoRsC _ _ _ _ _ _) (rsC_one _ _ _ _ _ _ _ _ _ _) ?_;intro w7 hb7 k7))
 exact ret_blk rfl (w.heap.size+1) _ _ rfl hb7 Tryz.underlying31 (infoRsC _ _ _ _ _ _) rfl (SpEnd.fr (sp_fin T6.out.B k7) (HRD.out) rfl rfl)
theorem pay9_ok {w0 w:World} (fl st ln:Int) {a:Option Addr} {n c:Nat} {b:List Int} (hf0:0≤fl) (hf1:fl<256) (hr:RdB w0 (.slice a n c) b) (hB:Below w0.heap.size w0 w) (hb:Bs b) (hs:st≠0) :
   Calls Tryz.prog 23 #[.agg (frX (Fr.of ⟨9,fl,ln,st⟩) (.slice none 0 0) (.slice none 0 0)),.slice a n c] w (SpEnd w0 w (.ok { Fr.of ⟨9,fl,ln,st⟩ with data:=b })):=by
 obtain ⟨hnb,hnc,hcm⟩:=hr.len
 have hs1:(st != 0)=true:=by simpa using hs
 have hs2:(st==0)=false:=beq_false_of_ne hs
 have S0:=Lib.hid (pyS0 w 9 fl st ln)
 have O0:=Lib.hid (pyO0 w 9 fl st ln)
 have hmm:=@run_makeMap Tryz.prog
 show Calls Tryz.prog 23 #[.agg (pyF 9 fl st ln),.slice a n c] w _
 unfold pyF
 unfold pyW rsZ pyF at S0 O0
 have HRD:=Lib.hid hr
 have HBS:=Lib.hid hb
 have HNB:=Lib.hid hnb
 clear hr hb hnb
 go_enter Tryz.func23,Tryz.ntmps23
 go_wp2_with (first
   | (refine insI rfl rfl (w.heap.size+1+1) 0 2 5 rfl rfl rfl O0.out rfl rfl rfl ?_;intro wa0 owna0 ga0;have Oa0:=Lib.hid owna0;have Sa0:=Lib.hid (S0.out.grown (by omega) ga0);clear owna0 ga0)
   | (refine insI rfl rfl (w.heap.size+1+1) 1 3 4 rfl rfl rfl Oa0.out rfl rfl rfl ?_;intro wa1 owna1 ga1;have Oa1:=Lib.hid owna1;have Sa1:=Lib.hid (Sa0.out.grown (by omega) ga1);clear owna1 ga1)
   | (refine insI rfl rfl (w.heap.size+1+1) 2 6 8 rfl rfl rfl Oa1.out rfl rfl rfl ?_;intro wa2 owna2 ga2;have Oa2:=Lib.hid owna2;have Sa2:=Lib.hid (Sa1.out.grown (by omega) ga2);clear owna2 ga2)
   | (refine insI rfl rfl (w.heap.size+1+1) 3 8 4 rfl rfl rfl Oa2.out rfl rfl rfl ?_;intro wa3 owna3 ga3;have Oa3:=Lib.hid owna3;have Sa3:=Lib.hid (Sa2.out.grown (by omega) ga3);clear owna3 ga3;have c0:wa3.cell? ⟨w.heap.size,0,none⟩=some (.int .i64 9):=blk_cell Sa3.out.F 0;have c2:wa3.cell? ⟨w.heap.size,2,none⟩=some (.int .u32 st):=blk_cell Sa3.out.F 2)
   | (refine lokI rfl rfl (w.heap.size+1+1) 4 rfl rfl Oa3.out rfl ?_;intro sza hata _;clear hata)
   | (refine wpList_store_cell rfl 22 _ _ rfl w.heap.size 4 rfl (.slice a n c) rfl rfl infoSl _ 29 Sa3.out.F (frX_lt (by decide)) ?_;intro w6 hF6 k6;rw [frX_data] at hF6;have T6:=Lib.hid (Sa3.out.put hF6 k6);clear hF6 k6)
   | (refine wpList_load_blk rfl 29 _ rfl w.heap.size rfl (frX (Fr.of ⟨9,fl,ln,st⟩) (.slice a n c) (.slice none 0 0)) 29 T6.out.F Tryz.underlying29 (infoFsX _ _ _) ?_)
   | (refine wpList_build_rs rfl _ rfl (frX (Fr.of ⟨9,fl,ln,st⟩) (.slice a n c) (.slice none 0 0)) rfl (frX_size14 _ _ _) ?_)
   | (refine wpList_store_blk rfl 31 _ _ rfl (w.heap.size+1) rfl (rsC 0 0 0 (frX (Fr.of ⟨9,fl,ln,st⟩) (.slice a n c) (.slice none 0 0))) rsZ rfl 31 T6.out.R (rsC_size _ _ _ _ _ _) (infoRsC _ _ _ _ _ _) (rsC_one _ _ _ _ _ _ _ _ _ _) ?_;intro w7 hb7 k7))
 exact ret_blk rfl (w.heap.size+1) _ _ rfl hb7 Tryz.underlying31 (infoRsC _ _ _ _ _ _) rfl (SpEnd.fr (sp_fin T6.out.B k7) (HRD.out) rfl rfl)
theorem pay_other {w0 w:World} (ty fl st ln:Int) {a:Option Addr} {n c:Nat} {b:List Int} (hf0:0≤fl) (hf1:fl<256) (hr:RdB w0 (.slice a n c) b) (hB:Below w0.heap.size w0 w) (hb:Bs b) (hty:ty≠4∧ty≠2∧ty≠3∧ty≠6∧ty≠8∧ty≠0∧ty≠1∧ty≠5∧ty≠9∧ty≠7∧ty≠16) (hty0:0≤ty) (hty1:ty<256) :
   Calls Tryz.prog 23 #[.agg (frX (Fr.of ⟨ty,fl,ln,st⟩) (.slice none 0 0) (.slice none 0 0)),.slice a n c] w (SpEnd w0 w (.ok { Fr.of ⟨ty,fl,ln,st⟩ with data:=b })):=by
 obtain ⟨hnb,hnc,hcm⟩:=hr.len
 have hwf:(Lit.int .i64 ty).wf=true:=by simp [Lit.wf,IntKind.min,IntKind.max,IntKind.signed,IntKind.bits];omega
 have t4:(ty==4)=false:=beq_false_of_ne (by omega)
 have t2:(ty==2)=false:=beq_false_of_ne (by omega)
 have t3:(ty==3)=false:=beq_false_of_ne (by omega)
 have t6:(ty==6)=false:=beq_false_of_ne (by omega)
 have t8:(ty==8)=false:=beq_false_of_ne (by omega)
 have t0:(ty==0)=false:=beq_false_of_ne (by omega)
 have t1:(ty==1)=false:=beq_false_of_ne (by omega)
 have t5:(ty==5)=false:=beq_false_of_ne (by omega)
 have t9:(ty==9)=false:=beq_false_of_ne (by omega)
 have t7:(ty==7)=false:=beq_false_of_ne (by omega)
 have t16:(ty==16)=false:=beq_false_of_ne (by omega)
 have S0:=Lib.hid (pyS0 w ty fl st ln)
 have O0:=Lib.hid (pyO0 w ty fl st ln)
 have hmm:=@run_makeMap Tryz.prog
 show Calls Tryz.prog 23 #[.agg (pyF ty fl st ln),.slice a n c] w _
 unfold pyF
 unfold pyW rsZ pyF at S0 O0
 have HRD:=Lib.hid hr
 have HBS:=Lib.hid hb
 have HNB:=Lib.hid hnb
 clear hr hb hnb
 go_enter Tryz.func23,Tryz.ntmps23
 go_wp2_with (first
   | (refine insI rfl rfl (w.heap.size+1+1) 0 2 5 rfl rfl rfl O0.out rfl rfl rfl ?_;intro wa0 owna0 ga0;have Oa0:=Lib.hid owna0;have Sa0:=Lib.hid (S0.out.grown (by omega) ga0);clear owna0 ga0)
   | (refine insI rfl rfl (w.heap.size+1+1) 1 3 4 rfl rfl rfl Oa0.out rfl rfl rfl ?_;intro wa1 owna1 ga1;have Oa1:=Lib.hid owna1;have Sa1:=Lib.hid (Sa0.out.grown (by omega) ga1);clear owna1 ga1)
   | (refine insI rfl rfl (w.heap.size+1+1) 2 6 8 rfl rfl rfl Oa1.out rfl rfl rfl ?_;intro wa2 owna2 ga2;have Oa2:=Lib.hid owna2;have Sa2:=Lib.hid (Sa1.out.grown (by omega) ga2);clear owna2 ga2)
   | (refine insI rfl rfl (w.heap.size+1+1) 3 8 4 rfl rfl rfl Oa2.out rfl rfl rfl ?_;intro wa3 owna3 ga3;have Oa3:=Lib.hid owna3;have Sa3:=Lib.hid (Sa2.out.grown (by omega) ga3);clear owna3 ga3;have c0:wa3.cell? ⟨w.heap.size,0,none⟩=some (.int .i64 ty):=blk_cell Sa3.out.F 0;have c2:wa3.cell? ⟨w.heap.size,2,none⟩=some (.int .u32 st):=blk_cell Sa3.out.F 2)
   | (refine lokI rfl rfl (w.heap.size+1+1) 4 rfl rfl Oa3.out hwf ?_;intro sza hata _;clear hata)
   | (refine wpList_store_cell rfl 22 _ _ rfl w.heap.size 4 rfl (.slice a n c) rfl rfl infoSl _ 29 Sa3.out.F (frX_lt (by decide)) ?_;intro w6 hF6 k6;rw [frX_data] at hF6;have T6:=Lib.hid (Sa3.out.put hF6 k6);clear hF6 k6)
   | (refine wpList_load_blk rfl 29 _ rfl w.heap.size rfl (frX (Fr.of ⟨ty,fl,ln,st⟩) (.slice a n c) (.slice none 0 0)) 29 T6.out.F Tryz.underlying29 (infoFsX _ _ _) ?_)
   | (refine wpList_build_rs rfl _ rfl (frX (Fr.of ⟨ty,fl,ln,st⟩) (.slice a n c) (.slice none 0 0)) rfl (frX_size14 _ _ _) ?_)
   | (refine wpList_store_blk rfl 31 _ _ rfl (w.heap.size+1) rfl (rsC 0 0 0 (frX (Fr.of ⟨ty,fl,ln,st⟩) (.slice a n c) (.slice none 0 0))) rsZ rfl 31 T6.out.R (rsC_size _ _ _ _ _ _) (infoRsC _ _ _ _ _ _) (rsC_one _ _ _ _ _ _ _ _ _ _) ?_;intro w7 hb7 k7))
 exact ret_blk rfl (w.heap.size+1) _ _ rfl hb7 Tryz.underlying31 (infoRsC _ _ _ _ _ _) rfl (SpEnd.fr (sp_fin T6.out.B k7) (HRD.out) rfl rfl)
theorem number4e {a:Option Addr} {n c:Nat} {b:List Int} {w:World} (h:RdB w (.slice a n c) b) (hb:Bs b) (hn:n=4):Calls Tryz.prog 38 #[.slice a n c] w fun e w'=>e = .returned (.int .u32 (n32 b 0))∧w=w':=by
 subst hn
 exact number4 h hb (Nat.le_refl _)
theorem pay3_ok {w0 w:World} (fl st ln:Int) {a:Option Addr} {n c:Nat} {b:List Int} (hf0:0≤fl) (hf1:fl<256) (hr:RdB w0 (.slice a n c) b) (hB:Below w0.heap.size w0 w) (hb:Bs b) (hs:st≠0) (hn:n=4) :
   Calls Tryz.prog 23 #[.agg (frX (Fr.of ⟨3,fl,ln,st⟩) (.slice none 0 0) (.slice none 0 0)),.slice a n c] w (SpEnd w0 w (.ok { Fr.of ⟨3,fl,ln,st⟩ with co:=n32 b 0 })):=by
 obtain ⟨hnb,hnc,hcm⟩:=hr.len
 have hs1:(st != 0)=true:=by simpa using hs
 have hs2:(st==0)=false:=beq_false_of_ne hs
 have hn1:((n:Int) != 4)=false:=by simp;omega
 have hn4:=hn
 clear hn
 have HN:=Lib.hid hn4
 clear hn4
 have S0:=Lib.hid (pyS0 w 3 fl st ln)
 have O0:=Lib.hid (pyO0 w 3 fl st ln)
 have hmm:=@run_makeMap Tryz.prog
 show Calls Tryz.prog 23 #[.agg (pyF 3 fl st ln),.slice a n c] w _
 unfold pyF
 unfold pyW rsZ pyF at S0 O0
 have HRD:=Lib.hid hr
 have HBS:=Lib.hid hb
 have HNB:=Lib.hid hnb
 clear hr hb hnb
 go_enter Tryz.func23,Tryz.ntmps23
 go_wp2_with (first
   | (refine insI rfl rfl (w.heap.size+1+1) 0 2 5 rfl rfl rfl O0.out rfl rfl rfl ?_;intro wa0 owna0 ga0;have Oa0:=Lib.hid owna0;have Sa0:=Lib.hid (S0.out.grown (by omega) ga0);clear owna0 ga0)
   | (refine insI rfl rfl (w.heap.size+1+1) 1 3 4 rfl rfl rfl Oa0.out rfl rfl rfl ?_;intro wa1 owna1 ga1;have Oa1:=Lib.hid owna1;have Sa1:=Lib.hid (Sa0.out.grown (by omega) ga1);clear owna1 ga1)
   | (refine insI rfl rfl (w.heap.size+1+1) 2 6 8 rfl rfl rfl Oa1.out rfl rfl rfl ?_;intro wa2 owna2 ga2;have Oa2:=Lib.hid owna2;have Sa2:=Lib.hid (Sa1.out.grown (by omega) ga2);clear owna2 ga2)
   | (refine insI rfl rfl (w.heap.size+1+1) 3 8 4 rfl rfl rfl Oa2.out rfl rfl rfl ?_;intro wa3 owna3 ga3;have Oa3:=Lib.hid owna3;have Sa3:=Lib.hid (Sa2.out.grown (by omega) ga3);clear owna3 ga3;have c0:wa3.cell? ⟨w.heap.size,0,none⟩=some (.int .i64 3):=blk_cell Sa3.out.F 0;have c2:wa3.cell? ⟨w.heap.size,2,none⟩=some (.int .u32 st):=blk_cell Sa3.out.F 2)
   | (refine lokI rfl rfl (w.heap.size+1+1) 4 rfl rfl Oa3.out rfl ?_;intro sza hata _;obtain rfl:sza=4:=(atI 4 hata);clear hata)
   | (go_at_call 38;refine (number4e (HRD.out.below (hB.trans (Sa3.out.B.mono hB.size))) HBS.out HN.out).mono ?_;rintro e w5 ⟨rfl,rfl⟩)
   | (refine wpList_store_cell rfl 26 _ _ rfl w.heap.size 7 rfl (.int .u32 (n32 b 0)) rfl rfl infoU32 _ 29 Sa3.out.F (frX_lt (by decide)) ?_;intro w6 hF6 k6;rw [frX_co] at hF6;have T6:=Lib.hid (Sa3.out.put hF6 k6);clear hF6 k6)
   | (refine wpList_load_blk rfl 29 _ rfl w.heap.size rfl (frX { Fr.of ⟨3,fl,ln,st⟩ with co:=n32 b 0 } (.slice none 0 0) (.slice none 0 0)) 29 T6.out.F Tryz.underlying29 (infoFsX _ _ _) ?_)
   | (refine wpList_build_rs rfl _ rfl (frX { Fr.of ⟨3,fl,ln,st⟩ with co:=n32 b 0 } (.slice none 0 0) (.slice none 0 0)) rfl (frX_size14 _ _ _) ?_)
   | (refine wpList_store_blk rfl 31 _ _ rfl (w.heap.size+1) rfl (rsC 0 0 0 (frX { Fr.of ⟨3,fl,ln,st⟩ with co:=n32 b 0 } (.slice none 0 0) (.slice none 0 0))) rsZ rfl 31 T6.out.R (rsC_size _ _ _ _ _ _) (infoRsC _ _ _ _ _ _) (rsC_one _ _ _ _ _ _ _ _ _ _) ?_;intro w7 hb7 k7))
 exact ret_blk rfl (w.heap.size+1) _ _ rfl hb7 Tryz.underlying31 (infoRsC _ _ _ _ _ _) rfl (SpEnd.fr (sp_fin T6.out.B k7) (rdB_nil _) rfl rfl)
theorem pay8_zero0 {w0 w:World} (fl ln:Int) {a:Option Addr} {n c:Nat} {b:List Int} (hf0:0≤fl) (hf1:fl<256) (hr:RdB w0 (.slice a n c) b) (hB:Below w0.heap.size w0 w) (hb:Bs b) (hn:n=4) (hz:n31 b 0=0) :
   Calls Tryz.prog 23 #[.agg (frX (Fr.of ⟨8,fl,ln,0⟩) (.slice none 0 0) (.slice none 0 0)),.slice a n c] w (SpEnd w0 w (.bad 4 1 0)):=by
 obtain ⟨hnb,hnc,hcm⟩:=hr.len
 have hn1:((n:Int) != 4)=false:=by simp;omega
 have HN:=Lib.hid hn
 clear hn
 have hb32:=Pl.n32_bd (b:=b) hb 0
 have hlow:bits .and .u32 (n32 b 0) 2147483647=n31 b 0:=u32_low _ hb32.1 hb32.2
 clear hb32
 rw [hz] at hlow
 have S0:=Lib.hid (pyS0 w 8 fl 0 ln)
 have O0:=Lib.hid (pyO0 w 8 fl 0 ln)
 have hmm:=@run_makeMap Tryz.prog
 show Calls Tryz.prog 23 #[.agg (pyF 8 fl 0 ln),.slice a n c] w _
 unfold pyF
 unfold pyW rsZ pyF at S0 O0
 have HRD:=Lib.hid hr
 have HBS:=Lib.hid hb
 have HNB:=Lib.hid hnb
 clear hr hb hnb
 go_enter Tryz.func23,Tryz.ntmps23
 go_wp2_with (first
   | (refine insI rfl rfl (w.heap.size+1+1) 0 2 5 rfl rfl rfl O0.out rfl rfl rfl ?_;intro wa0 owna0 ga0;have Oa0:=Lib.hid owna0;have Sa0:=Lib.hid (S0.out.grown (by omega) ga0);clear owna0 ga0)
   | (refine insI rfl rfl (w.heap.size+1+1) 1 3 4 rfl rfl rfl Oa0.out rfl rfl rfl ?_;intro wa1 owna1 ga1;have Oa1:=Lib.hid owna1;have Sa1:=Lib.hid (Sa0.out.grown (by omega) ga1);clear owna1 ga1)
   | (refine insI rfl rfl (w.heap.size+1+1) 2 6 8 rfl rfl rfl Oa1.out rfl rfl rfl ?_;intro wa2 owna2 ga2;have Oa2:=Lib.hid owna2;have Sa2:=Lib.hid (Sa1.out.grown (by omega) ga2);clear owna2 ga2)
   | (refine insI rfl rfl (w.heap.size+1+1) 3 8 4 rfl rfl rfl Oa2.out rfl rfl rfl ?_;intro wa3 owna3 ga3;have Oa3:=Lib.hid owna3;have Sa3:=Lib.hid (Sa2.out.grown (by omega) ga3);clear owna3 ga3;have c0:wa3.cell? ⟨w.heap.size,0,none⟩=some (.int .i64 8):=blk_cell Sa3.out.F 0;have c2:wa3.cell? ⟨w.heap.size,2,none⟩=some (.int .u32 0):=blk_cell Sa3.out.F 2)
   | (refine lokI rfl rfl (w.heap.size+1+1) 4 rfl rfl Oa3.out rfl ?_;intro sza hata _;obtain rfl:sza=4:=(atI 4 hata);clear hata)
   | (go_at_call 38;refine (number4e (HRD.out.below (hB.trans (Sa3.out.B.mono hB.size))) HBS.out HN.out).mono ?_;rintro e w5 ⟨rfl,rfl⟩)
   | (refine wpList_store_cell rfl 26 _ _ rfl w.heap.size 8 rfl (.int .u32 0) rfl rfl infoU32 _ 29 Sa3.out.F (frX_lt (by decide)) ?_;intro w6 hF6 k6;rw [frX_inc] at hF6;have T6:=Lib.hid (Sa3.out.put hF6 k6);clear hF6 k6;have c8:w6.cell? ⟨w.heap.size,8,none⟩=some (.int .u32 0):=blk_cell T6.out.F 8;have d2:w6.cell? ⟨w.heap.size,2,none⟩=some (.int .u32 0):=blk_cell T6.out.F 2)
   | (go_at_call 24;refine (connS_any 1 _).mono ?_;rintro e w8 ⟨rfl,b8⟩;have T8:=Lib.hid (T6.out.below b8))
   | (refine wpList_store_blk rfl 31 _ _ rfl (w.heap.size+1) rfl (rsX (.bad 4 1 0) (.slice none 0 0) (.slice none 0 0)) rsZ rfl 31 T8.out.R (rsX_size _ _ _) (infoRX' _ _ _) (rsX_one _ _ _ _ _ _ _) ?_;intro w7 hb7 k7))
 exact ret_blk rfl (w.heap.size+1) _ _ rfl hb7 Tryz.underlying31 (infoRX' _ _ _) rfl (SpEnd.nil (sp_fin T8.out.B k7))
theorem pay8_zero1 {w0 w:World} (fl st ln:Int) {a:Option Addr} {n c:Nat} {b:List Int} (hf0:0≤fl) (hf1:fl<256) (hr:RdB w0 (.slice a n c) b) (hB:Below w0.heap.size w0 w) (hb:Bs b) (hs:st≠0) (hn:n=4) (hz:n31 b 0=0) :
   Calls Tryz.prog 23 #[.agg (frX (Fr.of ⟨8,fl,ln,st⟩) (.slice none 0 0) (.slice none 0 0)),.slice a n c] w (SpEnd w0 w (.bad 5 1 st)):=by
 obtain ⟨hnb,hnc,hcm⟩:=hr.len
 have hs1:(st != 0)=true:=by simpa using hs
 have hs2:(st==0)=false:=beq_false_of_ne hs
 have hn1:((n:Int) != 4)=false:=by simp;omega
 have HN:=Lib.hid hn
 clear hn
 have hb32:=Pl.n32_bd (b:=b) hb 0
 have hlow:bits .and .u32 (n32 b 0) 2147483647=n31 b 0:=u32_low _ hb32.1 hb32.2
 clear hb32
 rw [hz] at hlow
 have S0:=Lib.hid (pyS0 w 8 fl st ln)
 have O0:=Lib.hid (pyO0 w 8 fl st ln)
 have hmm:=@run_makeMap Tryz.prog
 show Calls Tryz.prog 23 #[.agg (pyF 8 fl st ln),.slice a n c] w _
 unfold pyF
 unfold pyW rsZ pyF at S0 O0
 have HRD:=Lib.hid hr
 have HBS:=Lib.hid hb
 have HNB:=Lib.hid hnb
 clear hr hb hnb
 go_enter Tryz.func23,Tryz.ntmps23
 go_wp2_with (first
   | (refine insI rfl rfl (w.heap.size+1+1) 0 2 5 rfl rfl rfl O0.out rfl rfl rfl ?_;intro wa0 owna0 ga0;have Oa0:=Lib.hid owna0;have Sa0:=Lib.hid (S0.out.grown (by omega) ga0);clear owna0 ga0)
   | (refine insI rfl rfl (w.heap.size+1+1) 1 3 4 rfl rfl rfl Oa0.out rfl rfl rfl ?_;intro wa1 owna1 ga1;have Oa1:=Lib.hid owna1;have Sa1:=Lib.hid (Sa0.out.grown (by omega) ga1);clear owna1 ga1)
   | (refine insI rfl rfl (w.heap.size+1+1) 2 6 8 rfl rfl rfl Oa1.out rfl rfl rfl ?_;intro wa2 owna2 ga2;have Oa2:=Lib.hid owna2;have Sa2:=Lib.hid (Sa1.out.grown (by omega) ga2);clear owna2 ga2)
   | (refine insI rfl rfl (w.heap.size+1+1) 3 8 4 rfl rfl rfl Oa2.out rfl rfl rfl ?_;intro wa3 owna3 ga3;have Oa3:=Lib.hid owna3;have Sa3:=Lib.hid (Sa2.out.grown (by omega) ga3);clear owna3 ga3;have c0:wa3.cell? ⟨w.heap.size,0,none⟩=some (.int .i64 8):=blk_cell Sa3.out.F 0;have c2:wa3.cell? ⟨w.heap.size,2,none⟩=some (.int .u32 st):=blk_cell Sa3.out.F 2)
   | (refine lokI rfl rfl (w.heap.size+1+1) 4 rfl rfl Oa3.out rfl ?_;intro sza hata _;obtain rfl:sza=4:=(atI 4 hata);clear hata)
   | (go_at_call 38;refine (number4e (HRD.out.below (hB.trans (Sa3.out.B.mono hB.size))) HBS.out HN.out).mono ?_;rintro e w5 ⟨rfl,rfl⟩)
   | (refine wpList_store_cell rfl 26 _ _ rfl w.heap.size 8 rfl (.int .u32 0) rfl rfl infoU32 _ 29 Sa3.out.F (frX_lt (by decide)) ?_;intro w6 hF6 k6;rw [frX_inc] at hF6;have T6:=Lib.hid (Sa3.out.put hF6 k6);clear hF6 k6;have c8:w6.cell? ⟨w.heap.size,8,none⟩=some (.int .u32 0):=blk_cell T6.out.F 8;have d2:w6.cell? ⟨w.heap.size,2,none⟩=some (.int .u32 st):=blk_cell T6.out.F 2)
   | (refine wpList_store_blk rfl 31 _ _ rfl (w.heap.size+1) rfl (rsX (.bad 5 1 st) (.slice none 0 0) (.slice none 0 0)) rsZ rfl 31 T6.out.R (rsX_size _ _ _) (infoRX' _ _ _) (rsX_one _ _ _ _ _ _ _) ?_;intro w7 hb7 k7))
 exact ret_blk rfl (w.heap.size+1) _ _ rfl hb7 Tryz.underlying31 (infoRX' _ _ _) rfl (SpEnd.nil (sp_fin T6.out.B k7))
theorem pay8_ok {w0 w:World} (fl st ln:Int) {a:Option Addr} {n c:Nat} {b:List Int} (hf0:0≤fl) (hf1:fl<256) (hr:RdB w0 (.slice a n c) b) (hB:Below w0.heap.size w0 w) (hb:Bs b) (hn:n=4) (hz:n31 b 0≠0) :
   Calls Tryz.prog 23 #[.agg (frX (Fr.of ⟨8,fl,ln,st⟩) (.slice none 0 0) (.slice none 0 0)),.slice a n c] w (SpEnd w0 w (.ok { Fr.of ⟨8,fl,ln,st⟩ with inc:=n31 b 0 })):=by
 obtain ⟨hnb,hnc,hcm⟩:=hr.len
 have hn1:((n:Int) != 4)=false:=by simp;omega
 have HN:=Lib.hid hn
 clear hn
 have hb32:=Pl.n32_bd (b:=b) hb 0
 have hlow:bits .and .u32 (n32 b 0) 2147483647=n31 b 0:=u32_low _ hb32.1 hb32.2
 clear hb32
 have hz1:(n31 b 0==0)=false:=beq_false_of_ne hz
 have S0:=Lib.hid (pyS0 w 8 fl st ln)
 have O0:=Lib.hid (pyO0 w 8 fl st ln)
 have hmm:=@run_makeMap Tryz.prog
 show Calls Tryz.prog 23 #[.agg (pyF 8 fl st ln),.slice a n c] w _
 unfold pyF
 unfold pyW rsZ pyF at S0 O0
 have HRD:=Lib.hid hr
 have HBS:=Lib.hid hb
 have HNB:=Lib.hid hnb
 clear hr hb hnb
 go_enter Tryz.func23,Tryz.ntmps23
 go_wp2_with (first
   | (refine insI rfl rfl (w.heap.size+1+1) 0 2 5 rfl rfl rfl O0.out rfl rfl rfl ?_;intro wa0 owna0 ga0;have Oa0:=Lib.hid owna0;have Sa0:=Lib.hid (S0.out.grown (by omega) ga0);clear owna0 ga0)
   | (refine insI rfl rfl (w.heap.size+1+1) 1 3 4 rfl rfl rfl Oa0.out rfl rfl rfl ?_;intro wa1 owna1 ga1;have Oa1:=Lib.hid owna1;have Sa1:=Lib.hid (Sa0.out.grown (by omega) ga1);clear owna1 ga1)
   | (refine insI rfl rfl (w.heap.size+1+1) 2 6 8 rfl rfl rfl Oa1.out rfl rfl rfl ?_;intro wa2 owna2 ga2;have Oa2:=Lib.hid owna2;have Sa2:=Lib.hid (Sa1.out.grown (by omega) ga2);clear owna2 ga2)
   | (refine insI rfl rfl (w.heap.size+1+1) 3 8 4 rfl rfl rfl Oa2.out rfl rfl rfl ?_;intro wa3 owna3 ga3;have Oa3:=Lib.hid owna3;have Sa3:=Lib.hid (Sa2.out.grown (by omega) ga3);clear owna3 ga3;have c0:wa3.cell? ⟨w.heap.size,0,none⟩=some (.int .i64 8):=blk_cell Sa3.out.F 0;have c2:wa3.cell? ⟨w.heap.size,2,none⟩=some (.int .u32 st):=blk_cell Sa3.out.F 2)
   | (refine lokI rfl rfl (w.heap.size+1+1) 4 rfl rfl Oa3.out rfl ?_;intro sza hata _;obtain rfl:sza=4:=(atI 4 hata);clear hata)
   | (go_at_call 38;refine (number4e (HRD.out.below (hB.trans (Sa3.out.B.mono hB.size))) HBS.out HN.out).mono ?_;rintro e w5 ⟨rfl,rfl⟩)
   | (refine wpList_store_cell rfl 26 _ _ rfl w.heap.size 8 rfl (.int .u32 (n31 b 0)) rfl rfl infoU32 _ 29 Sa3.out.F (frX_lt (by decide)) ?_;intro w6 hF6 k6;rw [frX_inc] at hF6;have T6:=Lib.hid (Sa3.out.put hF6 k6);clear hF6 k6;have c8:w6.cell? ⟨w.heap.size,8,none⟩=some (.int .u32 (n31 b 0)):=blk_cell T6.out.F 8;have d2:w6.cell? ⟨w.heap.size,2,none⟩=some (.int .u32 st):=blk_cell T6.out.F 2)
   | (refine wpList_load_blk rfl 29 _ rfl w.heap.size rfl (frX { Fr.of ⟨8,fl,ln,st⟩ with inc:=n31 b 0 } (.slice none 0 0) (.slice none 0 0)) 29 T6.out.F Tryz.underlying29 (infoFsX _ _ _) ?_)
   | (refine wpList_build_rs rfl _ rfl (frX { Fr.of ⟨8,fl,ln,st⟩ with inc:=n31 b 0 } (.slice none 0 0) (.slice none 0 0)) rfl (frX_size14 _ _ _) ?_)
   | (refine wpList_store_blk rfl 31 _ _ rfl (w.heap.size+1) rfl (rsC 0 0 0 (frX { Fr.of ⟨8,fl,ln,st⟩ with inc:=n31 b 0 } (.slice none 0 0) (.slice none 0 0))) rsZ rfl 31 T6.out.R (rsC_size _ _ _ _ _ _) (infoRsC _ _ _ _ _ _) (rsC_one _ _ _ _ _ _ _ _ _ _) ?_;intro w7 hb7 k7))
 exact ret_blk rfl (w.heap.size+1) _ _ rfl hb7 Tryz.underlying31 (infoRsC _ _ _ _ _ _) rfl (SpEnd.fr (sp_fin T6.out.B k7) (rdB_nil _) rfl rfl)
theorem pay2_ok {w0 w:World} (fl st ln:Int) {a:Option Addr} {n c:Nat} {b:List Int} (hf0:0≤fl) (hf1:fl<256) (hr:RdB w0 (.slice a n c) b) (hB:Below w0.heap.size w0 w) (hb:Bs b) (hs:st≠0) (hn:n=5) :
   Calls Tryz.prog 23 #[.agg (frX (Fr.of ⟨2,fl,ln,st⟩) (.slice none 0 0) (.slice none 0 0)),.slice a n c] w (SpEnd w0 w (.ok { Fr.of ⟨2,fl,ln,st⟩ with ex:=decide (2147483648≤n32 b 0),dep:=n31 b 0,wt:=gb b 4 })):=by
 obtain ⟨hnb,hnc,hcm⟩:=hr.len
 have hs1:(st != 0)=true:=by simpa using hs
 have hs2:(st==0)=false:=beq_false_of_ne hs
 have hn1:((n:Int) != 5)=false:=by simp;omega
 have HN:=Lib.hid hn
 clear hn
 have S0:=Lib.hid (pyS0 w 2 fl st ln)
 have O0:=Lib.hid (pyO0 w 2 fl st ln)
 have hmm:=@run_makeMap Tryz.prog
 show Calls Tryz.prog 23 #[.agg (pyF 2 fl st ln),.slice a n c] w _
 unfold pyF
 unfold pyW rsZ pyF at S0 O0
 have HRD:=Lib.hid hr
 have HBS:=Lib.hid hb
 have HNB:=Lib.hid hnb
 clear hr hb hnb
 go_enter Tryz.func23,Tryz.ntmps23
 go_wp2_with (first
   | (refine insI rfl rfl (w.heap.size+1+1) 0 2 5 rfl rfl rfl O0.out rfl rfl rfl ?_;intro wa0 owna0 ga0;have Oa0:=Lib.hid owna0;have Sa0:=Lib.hid (S0.out.grown (by omega) ga0);clear owna0 ga0)
   | (refine insI rfl rfl (w.heap.size+1+1) 1 3 4 rfl rfl rfl Oa0.out rfl rfl rfl ?_;intro wa1 owna1 ga1;have Oa1:=Lib.hid owna1;have Sa1:=Lib.hid (Sa0.out.grown (by omega) ga1);clear owna1 ga1)
   | (refine insI rfl rfl (w.heap.size+1+1) 2 6 8 rfl rfl rfl Oa1.out rfl rfl rfl ?_;intro wa2 owna2 ga2;have Oa2:=Lib.hid owna2;have Sa2:=Lib.hid (Sa1.out.grown (by omega) ga2);clear owna2 ga2)
   | (refine insI rfl rfl (w.heap.size+1+1) 3 8 4 rfl rfl rfl Oa2.out rfl rfl rfl ?_;intro wa3 owna3 ga3;have Oa3:=Lib.hid owna3;have Sa3:=Lib.hid (Sa2.out.grown (by omega) ga3);clear owna3 ga3;have c0:wa3.cell? ⟨w.heap.size,0,none⟩=some (.int .i64 2):=blk_cell Sa3.out.F 0;have c2:wa3.cell? ⟨w.heap.size,2,none⟩=some (.int .u32 st):=blk_cell Sa3.out.F 2)
   | (refine lokI rfl rfl (w.heap.size+1+1) 4 rfl rfl Oa3.out rfl ?_;intro sza hata _;obtain rfl:sza=5:=(atI 5 hata);clear hata)
   | (go_at_call 43;refine (dependency_any (x:=Fr.of ⟨2,fl,ln,st⟩) (dv:=.slice none 0 0) (sv:=.slice none 0 0) Sa3.out.F (HRD.out.below (hB.trans (Sa3.out.B.mono hB.size))) HBS.out (by rw [HN.out];exact Nat.le_refl _)).mono ?_;rintro e w5 ⟨rfl,hF5,k5⟩;have T5:=Lib.hid (Sa3.out.put hF5 k5);clear hF5 k5)
   | (refine wpList_load_blk rfl 29 _ rfl w.heap.size rfl (frX { Fr.of ⟨2,fl,ln,st⟩ with ex:=decide (2147483648≤n32 b 0),dep:=n31 b 0,wt:=gb b 4 } (.slice none 0 0) (.slice none 0 0)) 29 T5.out.F Tryz.underlying29 (infoFsX _ _ _) ?_)
   | (refine wpList_build_rs rfl _ rfl (frX { Fr.of ⟨2,fl,ln,st⟩ with ex:=decide (2147483648≤n32 b 0),dep:=n31 b 0,wt:=gb b 4 } (.slice none 0 0) (.slice none 0 0)) rfl (frX_size14 _ _ _) ?_)
   | (refine wpList_store_blk rfl 31 _ _ rfl (w.heap.size+1) rfl (rsC 0 0 0 (frX { Fr.of ⟨2,fl,ln,st⟩ with ex:=decide (2147483648≤n32 b 0),dep:=n31 b 0,wt:=gb b 4 } (.slice none 0 0) (.slice none 0 0))) rsZ rfl 31 T5.out.R (rsC_size _ _ _ _ _ _) (infoRsC _ _ _ _ _ _) (rsC_one _ _ _ _ _ _ _ _ _ _) ?_;intro w7 hb7 k7))
 exact ret_blk rfl (w.heap.size+1) _ _ rfl hb7 Tryz.underlying31 (infoRsC _ _ _ _ _ _) rfl (SpEnd.fr (sp_fin T5.out.B k7) (rdB_nil _) rfl rfl)
end Go.Proofs.YtfdlbjibninakaaGreatDoor

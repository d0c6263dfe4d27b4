/- The reference's reading: the payload of a frame (3: two regions that draw). -/
import Derived.Test.YtfdlbjibninakaaGreatDoorSp4
import Derived.Test.YtfdlbjibninakaaGreatDoorPyA
import Derived.Outline
import Derived.Deep.CutRange
set_option linter.unusedVariables false
set_option linter.unusedSimpArgs false
namespace Go.Proofs.YtfdlbjibninakaaGreatDoor
set_option maxRecDepth 100000
set_option maxHeartbeats 16000000
open Go.RowKit Go.Maps
theorem numOf_48 (b:List Int) (h:8≤b.length):numOf ((b.take 8).drop 4)=n32 b 4:=by
 match b,h with
 | a0::a1::a2::a3::a4::a5::a6::a7::b,_=>simp [numOf,n32,gb];omega
theorem number48 {a:Option Addr} {c:Nat} {b:List Int} {w:World} (h:RdB w (.slice a 4 c) ((b.take 8).drop 4)) (hb:Bs b) (hn:8≤b.length):Calls Tryz.prog 38 #[.slice a 4 c] w fun e w'=>e = .returned (.int .u32 (n32 b 4))∧w=w':=by
 have hl:((b.take 8).drop 4).length=4:=by simp;omega
 have:=number_any a c ((b.take 8).drop 4) w (by rw [hl];exact h) ((hb.take 8).drop 4) (by omega)
 rw [hl,numOf_48 b hn] at this
 exact this
theorem number4t {a:Option Addr} {c:Nat} {b:List Int} {w:World} (h:RdB w (.slice a 4 c) (b.take 4)) (hb:Bs b) (hn:4≤b.length):Calls Tryz.prog 38 #[.slice a 4 c] w fun e w'=>e = .returned (.int .u32 (n32 b 0))∧w=w':=by
 have hl:(b.take 4).length=4:=by simp;omega
 have:=number_any a c (b.take 4) w (by rw [hl];exact h) (hb.take 4) (by omega)
 rw [hl,numOf_40 b hn] at this
 exact this
theorem pay7_ok {w0 w:World} (fl ln:Int) {a:Option Addr} {n c:Nat} {b:List Int} (hf0:0≤fl) (hf1:fl<256) (hr:RdB w0 (.slice a n c) b) (hB:Below w0.heap.size w0 w) (hb:Bs b) (hn:¬n<8) :
   Calls Tryz.prog 23 #[.agg (frX (Fr.of ⟨7,fl,ln,0⟩) (.slice none 0 0) (.slice none 0 0)),.slice a n c] w (SpEnd w0 w (.ok { Fr.of ⟨7,fl,ln,0⟩ with la:=n31 b 0,co:=n32 b 4,data:=b.drop 8 })):=by
 obtain ⟨hnb,hnc,hcm⟩:=hr.len
 have hn1:¬(n:Int)<8:=by omega
 have hbd:=hb
 obtain ⟨aA,cA,hsA,hrA,-⟩:=slice_to hr E5.sl E5s (m:=4) (by omega)
 obtain ⟨aB,cB,hsB,hrB,-⟩:=slice_mid hr E5.sl E5s (n:=4) (m:=8) (by omega) (by omega)
 obtain ⟨vC,hsC,hrC,-⟩:=slice_from hr E5.sl E5s (n:=8) (by omega)
 obtain ⟨aC,cC,rfl,-,-,-⟩:=id hrC
 have hCl:(b.drop 8).length=n-8:=by rw [List.length_drop];omega
 rw [hCl] at hsC hrC
 replace hsA:∀w,(Instr.slice 22 (.slice a n c) none (some (.int .i64 4)) none).run Tryz.prog w = .ok (.slice aA 4 cA) w:=hsA
 replace hsB:∀w,(Instr.slice 22 (.slice a n c) (some (.int .i64 4)) (some (.int .i64 8)) none).run Tryz.prog w = .ok (.slice aB 4 cB) w:=hsB
 replace hsC:∀w,(Instr.slice 22 (.slice a n c) (some (.int .i64 8)) none none).run Tryz.prog w = .ok (.slice aC (n-8) cC) w:=hsC
 have NA:Hid (∀W,Below w0.heap.size w0 W→Calls Tryz.prog 38 #[.slice aA 4 cA] W fun e w'=>e = .returned (.int .u32 (n32 b 0))∧W=w'):=Lib.hid fun W h=>number4t (hrA.below h) hb (by omega)
 have NB:Hid (∀W,Below w0.heap.size w0 W→Calls Tryz.prog 38 #[.slice aB 4 cB] W fun e w'=>e = .returned (.int .u32 (n32 b 4))∧W=w'):=Lib.hid fun W h=>number48 (hrB.below h) hb (by omega)
 have HC:=Lib.hid hrC
 have hb32:=Pl.n32_bd (b:=b) hb 0
 have hlow:bits .and .u32 (n32 b 0) 2147483647=n31 b 0:=u32_low _ hb32.1 hb32.2
 clear hb32 hrA hrB hrC hCl hbd
 have S0:=Lib.hid (pyS0 w 7 fl 0 ln)
 have O0:=Lib.hid (pyO0 w 7 fl 0 ln)
 have hmm:=@run_makeMap Tryz.prog
 show Calls Tryz.prog 23 #[.agg (pyF 7 fl 0 ln),.slice a n c] w _
 unfold pyF
 unfold pyW rsZ pyF at S0 O0
 have HRD:=Lib.hid hr
 have HBS:=Lib.hid hb
 have HNB:=Lib.hid hnb
 clear hr hb hnb
 go_enter Tryz.func23,Tryz.ntmps23
 go_wp2_with (first
   | (refine insI rfl rfl (w.heap.size+1+1) 0 2 5 rfl rfl rfl O0.out rfl rfl rfl ?_;intro wa0 owna0 ga0;have Oa0:=Lib.hid owna0;have Sa0:=Lib.hid (S0.out.grown (by omega) ga0);clear owna0 ga0)
   | (refine insI rfl rfl (w.heap.size+1+1) 1 3 4 rfl rfl rfl Oa0.out rfl rfl rfl ?_;intro wa1 owna1 ga1;have Oa1:=Lib.hid owna1;have Sa1:=Lib.hid (Sa0.out.grown (by omega) ga1);clear owna1 ga1)
   | (refine insI rfl rfl (w.heap.size+1+1) 2 6 8 rfl rfl rfl Oa1.out rfl rfl rfl ?_;intro wa2 owna2 ga2;have Oa2:=Lib.hid owna2;have Sa2:=Lib.hid (Sa1.out.grown (by omega) ga2);clear owna2 ga2)
   | (refine insI rfl rfl (w.heap.size+1+1) 3 8 4 rfl rfl rfl Oa2.out rfl rfl rfl ?_;intro wa3 owna3 ga3;have Oa3:=Lib.hid owna3;have Sa3:=Lib.hid (Sa2.out.grown (by omega) ga3);clear owna3 ga3;have c0:wa3.cell? ⟨w.heap.size,0,none⟩=some (.int .i64 7):=blk_cell Sa3.out.F 0;have c2:wa3.cell? ⟨w.heap.size,2,none⟩=some (.int .u32 0):=blk_cell Sa3.out.F 2)
   | (refine lokI rfl rfl (w.heap.size+1+1) 4 rfl rfl Oa3.out rfl ?_;intro sza hata _;clear hata)
   | (refine insI rfl rfl wa3.heap.size 0 7 8 rfl rfl rfl (World.ownsMap_made _ _ _ _) rfl rfl rfl ?_;intro wb0 ownb0 gb0;have Ob0:=Lib.hid ownb0;have Sb0:=Lib.hid (PyS.grown (Sa3.out.alloc _) Sa3.out.lt gb0);clear ownb0 gb0)
   | (refine insI rfl rfl wa3.heap.size 1 16 4 rfl rfl rfl Ob0.out rfl rfl rfl ?_;intro wb1 ownb1 gb1;have Ob1:=Lib.hid ownb1;have Sb1:=Lib.hid (PyS.grown Sb0.out Sa3.out.lt gb1);clear ownb1 gb1;have d0:wb1.cell? ⟨w.heap.size,0,none⟩=some (.int .i64 7):=blk_cell Sb1.out.F 0;have d2:wb1.cell? ⟨w.heap.size,2,none⟩=some (.int .u32 0):=blk_cell Sb1.out.F 2)
   | (refine lokI rfl rfl wa3.heap.size 2 rfl rfl Ob1.out rfl ?_;intro szb hatb _;obtain rfl:szb=8:=(atI 8 hatb);clear hatb))
 have hF:=Sb1.out.F
 have hR:=Sb1.out.R
 have hB1:=Sb1.out.B
 have e4:wb1.cell? ⟨w.heap.size,4,none⟩=some (.slice none 0 0):=blk_cell hF 4
 have f4:=blk_free hF 4
 have e6:wb1.cell? ⟨w.heap.size,6,none⟩=some (.int .u32 0):=blk_cell hF 6
 have f6:=blk_free hF 6
 have e7:wb1.cell? ⟨w.heap.size,7,none⟩=some (.int .u32 0):=blk_cell hF 7
 have f7:=blk_free hF 7
 have HB0:Below w0.heap.size w0 wb1:=hB.trans (hB1.mono hB.size)
 generalize n31 b 0=p0 at *
 generalize n32 b 0=pw at *
 generalize n32 b 4=q0 at *
 have F0:Hid (∀(W:World) (u:Value) (p q:Int),W.heap[w.heap.size]? = some (.cells (frX (Fr.of ⟨7,fl,ln,0⟩) (.slice none 0 0) (.slice none 0 0)) 29 (0,0))→(((W.setCell ⟨w.heap.size,6,none⟩ (.int .u32 p)).setCell ⟨w.heap.size,7,none⟩ (.int .u32 q)).setCell ⟨w.heap.size,4,none⟩ u).drew.heap[w.heap.size]? = some (.cells (frX { Fr.of ⟨7,fl,ln,0⟩ with la:=p,co:=q } u (.slice none 0 0)) 29 (0,0))):=Lib.hid fun W u p q hF=>by have:=(blk_set (blk_set (blk_set hF 6 (.int .u32 p)) 7 (.int .u32 q)) 4 u);rw [frX_la,frX_co,frX_data] at this;exact this
 have R0:Hid (∀(W:World) (u:Value) (p q:Int),W.heap[w.heap.size+1]? = some (.cells rsZ 31 (0,0))→(((W.setCell ⟨w.heap.size,6,none⟩ (.int .u32 p)).setCell ⟨w.heap.size,7,none⟩ (.int .u32 q)).setCell ⟨w.heap.size,4,none⟩ u).drew.heap[w.heap.size+1]? = some (.cells rsZ 31 (0,0))):=Lib.hid fun W u p q hR=>(blk_set_other (blk_set_other (blk_set_other hR (Nat.succ_ne_self _) _) (Nat.succ_ne_self _) _) (Nat.succ_ne_self _) _)
 have HF:=Lib.hid hF
 have HR:=Lib.hid hR
 clear hF hR
 go_region_held3 (fun w'=>Below w0.heap.size w0 w') (first|assumption|exact HB0.drew|(refine Below.drew ?_;first|exact HB0|exact HB0.setCell hB.size _|exact (HB0.setCell hB.size _).setCell hB.size _|exact ((HB0.setCell hB.size _).setCell hB.size _).setCell hB.size _)) (((first|(go_at_call 38;(with_reducible refine (NA.out _ (by assumption)).mono ?_);rintro e w' ⟨rfl,rfl⟩)|(go_at_call 38;(with_reducible refine (NB.out _ (by assumption)).mono ?_);rintro e w' ⟨rfl,rfl⟩))))
 all_goals
   go_wp2_with (first
     | (refine wpList_load_blk rfl 29 _ rfl w.heap.size rfl (frX { Fr.of ⟨7,fl,ln,0⟩ with la:=p0,co:=q0 } (.slice aC (n-8) cC) (.slice none 0 0)) 29 (F0.out _ _ _ _ HF.out) Tryz.underlying29 (infoFsX _ _ _) ?_;have HR9:=Lib.hid (R0.out wb1 (.slice aC (n-8) cC) p0 q0 HR.out))
     | (refine wpList_build_rs rfl _ rfl (frX { Fr.of ⟨7,fl,ln,0⟩ with la:=p0,co:=q0 } (.slice aC (n-8) cC) (.slice none 0 0)) rfl (frX_size14 _ _ _) ?_)
     | (refine wpList_store_blk rfl 31 _ _ rfl (w.heap.size+1) rfl (rsC 0 0 0 (frX { Fr.of ⟨7,fl,ln,0⟩ with la:=p0,co:=q0 } (.slice aC (n-8) cC) (.slice none 0 0))) rsZ rfl 31 HR9.out (rsC_size _ _ _ _ _ _) (infoRsC _ _ _ _ _ _) (rsC_one _ _ _ _ _ _ _ _ _ _) ?_;intro w7 hb7 k7))
   exact ret_blk rfl (w.heap.size+1) _ _ rfl hb7 Tryz.underlying31 (infoRsC _ _ _ _ _ _) rfl (SpEnd.fr (sp_fin ((((hB1.setCell (Nat.le_refl _) _).setCell (Nat.le_refl _) _).setCell (Nat.le_refl _) _).drew) k7) HC.out rfl rfl)
theorem pay16_zero {w0 w:World} (fl ln:Int) {a:Option Addr} {n c:Nat} {b:List Int} (hf0:0≤fl) (hf1:fl<256) (hr:RdB w0 (.slice a n c) b) (hB:Below w0.heap.size w0 w) (hb:Bs b) (hn:¬n<4) (hz:n31 b 0=0) :
   Calls Tryz.prog 23 #[.agg (frX (Fr.of ⟨16,fl,ln,0⟩) (.slice none 0 0) (.slice none 0 0)),.slice a n c] w (SpEnd w0 w (.bad 4 1 0)):=by
 obtain ⟨hnb,hnc,hcm⟩:=hr.len
 have hn1:¬(n:Int)<4:=by omega
 have hbd:=hb
 obtain ⟨aA,cA,hsA,hrA,-⟩:=slice_to hr E5.sl E5s (m:=4) (by omega)
 obtain ⟨vC,hsC,hrC,-⟩:=slice_from hr E5.sl E5s (n:=4) (by omega)
 obtain ⟨aC,cC,rfl,-,-,-⟩:=id hrC
 have hCl:(b.drop 4).length=n-4:=by rw [List.length_drop];omega
 rw [hCl] at hsC hrC
 replace hsA:∀w,(Instr.slice 22 (.slice a n c) none (some (.int .i64 4)) none).run Tryz.prog w = .ok (.slice aA 4 cA) w:=hsA
 replace hsC:∀w,(Instr.slice 22 (.slice a n c) (some (.int .i64 4)) none none).run Tryz.prog w = .ok (.slice aC (n-4) cC) w:=hsC
 have NA:Hid (∀W,Below w0.heap.size w0 W→Calls Tryz.prog 38 #[.slice aA 4 cA] W fun e w'=>e = .returned (.int .u32 (n32 b 0))∧W=w'):=Lib.hid fun W h=>number4t (hrA.below h) hb (by omega)
 have HC:=Lib.hid hrC
 have hb32:=Pl.n32_bd (b:=b) hb 0
 have hlow:bits .and .u32 (n32 b 0) 2147483647=n31 b 0:=u32_low _ hb32.1 hb32.2
 clear hb32 hrA hrC hCl hbd
 rw [hz] at hlow
 have S0:=Lib.hid (pyS0 w 16 fl 0 ln)
 have O0:=Lib.hid (pyO0 w 16 fl 0 ln)
 have hmm:=@run_makeMap Tryz.prog
 show Calls Tryz.prog 23 #[.agg (pyF 16 fl 0 ln),.slice a n c] w _
 unfold pyF
 unfold pyW rsZ pyF at S0 O0
 have HRD:=Lib.hid hr
 have HBS:=Lib.hid hb
 have HNB:=Lib.hid hnb
 clear hr hb hnb
 go_enter Tryz.func23,Tryz.ntmps23
 go_wp2_with (first
   | (refine insI rfl rfl (w.heap.size+1+1) 0 2 5 rfl rfl rfl O0.out rfl rfl rfl ?_;intro wa0 owna0 ga0;have Oa0:=Lib.hid owna0;have Sa0:=Lib.hid (S0.out.grown (by omega) ga0);clear owna0 ga0)
   | (refine insI rfl rfl (w.heap.size+1+1) 1 3 4 rfl rfl rfl Oa0.out rfl rfl rfl ?_;intro wa1 owna1 ga1;have Oa1:=Lib.hid owna1;have Sa1:=Lib.hid (Sa0.out.grown (by omega) ga1);clear owna1 ga1)
   | (refine insI rfl rfl (w.heap.size+1+1) 2 6 8 rfl rfl rfl Oa1.out rfl rfl rfl ?_;intro wa2 owna2 ga2;have Oa2:=Lib.hid owna2;have Sa2:=Lib.hid (Sa1.out.grown (by omega) ga2);clear owna2 ga2)
   | (refine insI rfl rfl (w.heap.size+1+1) 3 8 4 rfl rfl rfl Oa2.out rfl rfl rfl ?_;intro wa3 owna3 ga3;have Oa3:=Lib.hid owna3;have Sa3:=Lib.hid (Sa2.out.grown (by omega) ga3);clear owna3 ga3;have c0:wa3.cell? ⟨w.heap.size,0,none⟩=some (.int .i64 16):=blk_cell Sa3.out.F 0;have c2:wa3.cell? ⟨w.heap.size,2,none⟩=some (.int .u32 0):=blk_cell Sa3.out.F 2)
   | (refine lokI rfl rfl (w.heap.size+1+1) 4 rfl rfl Oa3.out rfl ?_;intro sza hata _;clear hata)
   | (refine insI rfl rfl wa3.heap.size 0 7 8 rfl rfl rfl (World.ownsMap_made _ _ _ _) rfl rfl rfl ?_;intro wb0 ownb0 gb0;have Ob0:=Lib.hid ownb0;have Sb0:=Lib.hid (PyS.grown (Sa3.out.alloc _) Sa3.out.lt gb0);clear ownb0 gb0)
   | (refine insI rfl rfl wa3.heap.size 1 16 4 rfl rfl rfl Ob0.out rfl rfl rfl ?_;intro wb1 ownb1 gb1;have Ob1:=Lib.hid ownb1;have Sb1:=Lib.hid (PyS.grown Sb0.out Sa3.out.lt gb1);clear ownb1 gb1;have d0:wb1.cell? ⟨w.heap.size,0,none⟩=some (.int .i64 16):=blk_cell Sb1.out.F 0;have d2:wb1.cell? ⟨w.heap.size,2,none⟩=some (.int .u32 0):=blk_cell Sb1.out.F 2)
   | (refine lokI rfl rfl wa3.heap.size 2 rfl rfl Ob1.out rfl ?_;intro szb hatb _;obtain rfl:szb=4:=(atI 4 hatb);clear hatb))
 have hF:=Sb1.out.F
 have hR:=Sb1.out.R
 have hB1:=Sb1.out.B
 have e4:wb1.cell? ⟨w.heap.size,4,none⟩=some (.slice none 0 0):=blk_cell hF 4
 have f4:=blk_free hF 4
 have e5:wb1.cell? ⟨w.heap.size,5,none⟩=some (.int .u32 0):=blk_cell hF 5
 have f5:=blk_free hF 5
 have HB0:Below w0.heap.size w0 wb1:=hB.trans (hB1.mono hB.size)
 generalize n32 b 0=pw at *
 have F0:Hid (∀(W:World) (u:Value) (p:Int),W.heap[w.heap.size]? = some (.cells (frX (Fr.of ⟨16,fl,ln,0⟩) (.slice none 0 0) (.slice none 0 0)) 29 (0,0))→((W.setCell ⟨w.heap.size,5,none⟩ (.int .u32 p)).setCell ⟨w.heap.size,4,none⟩ u).drew.heap[w.heap.size]? = some (.cells (frX { Fr.of ⟨16,fl,ln,0⟩ with pr:=p } u (.slice none 0 0)) 29 (0,0))):=Lib.hid fun W u p hF=>by have:=(blk_set (blk_set hF 5 (.int .u32 p)) 4 u);rw [frX_pr,frX_data] at this;exact this
 have R0:Hid (∀(W:World) (u:Value) (p:Int),W.heap[w.heap.size+1]? = some (.cells rsZ 31 (0,0))→((W.setCell ⟨w.heap.size,5,none⟩ (.int .u32 p)).setCell ⟨w.heap.size,4,none⟩ u).drew.heap[w.heap.size+1]? = some (.cells rsZ 31 (0,0))):=Lib.hid fun W u p hR=>(blk_set_other (blk_set_other hR (Nat.succ_ne_self _) _) (Nat.succ_ne_self _) _)
 have F1:Hid (∀(W:World) (u:Value) (p:Int),W.heap[w.heap.size]? = some (.cells (frX (Fr.of ⟨16,fl,ln,0⟩) (.slice none 0 0) (.slice none 0 0)) 29 (0,0))→((W.setCell ⟨w.heap.size,4,none⟩ u).setCell ⟨w.heap.size,5,none⟩ (.int .u32 p)).drew.heap[w.heap.size]? = some (.cells (frX { Fr.of ⟨16,fl,ln,0⟩ with pr:=p } u (.slice none 0 0)) 29 (0,0))):=Lib.hid fun W u p hF=>by have:=(blk_set (blk_set hF 4 u) 5 (.int .u32 p));rw [frX_data,frX_pr] at this;exact this
 have R1:Hid (∀(W:World) (u:Value) (p:Int),W.heap[w.heap.size+1]? = some (.cells rsZ 31 (0,0))→((W.setCell ⟨w.heap.size,4,none⟩ u).setCell ⟨w.heap.size,5,none⟩ (.int .u32 p)).drew.heap[w.heap.size+1]? = some (.cells rsZ 31 (0,0))):=Lib.hid fun W u p hR=>(blk_set_other (blk_set_other hR (Nat.succ_ne_self _) _) (Nat.succ_ne_self _) _)
 have HF:=Lib.hid hF
 have HR:=Lib.hid hR
 clear hF hR
 go_region_held3 (fun w'=>Below w0.heap.size w0 w') (first|assumption|exact HB0.drew|(refine Below.drew ?_;first|exact HB0|exact HB0.setCell hB.size _|exact (HB0.setCell hB.size _).setCell hB.size _|exact ((HB0.setCell hB.size _).setCell hB.size _).setCell hB.size _)) (((first|(go_at_call 38;(with_reducible refine (NA.out _ (by assumption)).mono ?_);rintro e w' ⟨rfl,rfl⟩))))
 all_goals
   go_wp2_with (first
     | (go_at_call 24;refine (connS_any 1 _).mono ?_;rintro e w8 ⟨rfl,b8⟩;have HR9:=Lib.hid (blk_below (R0.out wb1 (.slice aC (n-4) cC) 0 HR.out) b8))
     | (go_at_call 24;refine (connS_any 1 _).mono ?_;rintro e w8 ⟨rfl,b8⟩;have HR9:=Lib.hid (blk_below (R1.out wb1 (.slice aC (n-4) cC) 0 HR.out) b8))
     | (refine wpList_store_blk rfl 31 _ _ rfl (w.heap.size+1) rfl (rsX (.bad 4 1 0) (.slice none 0 0) (.slice none 0 0)) rsZ rfl 31 HR9.out (rsX_size _ _ _) (infoRX' _ _ _) (rsX_one _ _ _ _ _ _ _) ?_;intro w7 hb7 k7))
   exact ret_blk rfl (w.heap.size+1) _ _ rfl hb7 Tryz.underlying31 (infoRX' _ _ _) rfl (SpEnd.nil (sp_fin (Below.step' (((hB1.setCell (Nat.le_refl _) _).setCell (Nat.le_refl _) _).drew) b8) k7))
theorem pay16_ok {w0 w:World} (fl ln:Int) {a:Option Addr} {n c:Nat} {b:List Int} (hf0:0≤fl) (hf1:fl<256) (hr:RdB w0 (.slice a n c) b) (hB:Below w0.heap.size w0 w) (hb:Bs b) (hn:¬n<4) (hz:n31 b 0≠0) :
   Calls Tryz.prog 23 #[.agg (frX (Fr.of ⟨16,fl,ln,0⟩) (.slice none 0 0) (.slice none 0 0)),.slice a n c] w (SpEnd w0 w (.ok { Fr.of ⟨16,fl,ln,0⟩ with pr:=n31 b 0,data:=b.drop 4 })):=by
 obtain ⟨hnb,hnc,hcm⟩:=hr.len
 have hn1:¬(n:Int)<4:=by omega
 have hbd:=hb
 obtain ⟨aA,cA,hsA,hrA,-⟩:=slice_to hr E5.sl E5s (m:=4) (by omega)
 obtain ⟨vC,hsC,hrC,-⟩:=slice_from hr E5.sl E5s (n:=4) (by omega)
 obtain ⟨aC,cC,rfl,-,-,-⟩:=id hrC
 have hCl:(b.drop 4).length=n-4:=by rw [List.length_drop];omega
 rw [hCl] at hsC hrC
 replace hsA:∀w,(Instr.slice 22 (.slice a n c) none (some (.int .i64 4)) none).run Tryz.prog w = .ok (.slice aA 4 cA) w:=hsA
 replace hsC:∀w,(Instr.slice 22 (.slice a n c) (some (.int .i64 4)) none none).run Tryz.prog w = .ok (.slice aC (n-4) cC) w:=hsC
 have NA:Hid (∀W,Below w0.heap.size w0 W→Calls Tryz.prog 38 #[.slice aA 4 cA] W fun e w'=>e = .returned (.int .u32 (n32 b 0))∧W=w'):=Lib.hid fun W h=>number4t (hrA.below h) hb (by omega)
 have HC:=Lib.hid hrC
 have hb32:=Pl.n32_bd (b:=b) hb 0
 have hlow:bits .and .u32 (n32 b 0) 2147483647=n31 b 0:=u32_low _ hb32.1 hb32.2
 clear hb32 hrA hrC hCl hbd
 have S0:=Lib.hid (pyS0 w 16 fl 0 ln)
 have O0:=Lib.hid (pyO0 w 16 fl 0 ln)
 have hmm:=@run_makeMap Tryz.prog
 show Calls Tryz.prog 23 #[.agg (pyF 16 fl 0 ln),.slice a n c] w _
 unfold pyF
 unfold pyW rsZ pyF at S0 O0
 have HRD:=Lib.hid hr
 have HBS:=Lib.hid hb
 have HNB:=Lib.hid hnb
 clear hr hb hnb
 go_enter Tryz.func23,Tryz.ntmps23
 go_wp2_with (first
   | (refine insI rfl rfl (w.heap.size+1+1) 0 2 5 rfl rfl rfl O0.out rfl rfl rfl ?_;intro wa0 owna0 ga0;have Oa0:=Lib.hid owna0;have Sa0:=Lib.hid (S0.out.grown (by omega) ga0);clear owna0 ga0)
   | (refine insI rfl rfl (w.heap.size+1+1) 1 3 4 rfl rfl rfl Oa0.out rfl rfl rfl ?_;intro wa1 owna1 ga1;have Oa1:=Lib.hid owna1;have Sa1:=Lib.hid (Sa0.out.grown (by omega) ga1);clear owna1 ga1)
   | (refine insI rfl rfl (w.heap.size+1+1) 2 6 8 rfl rfl rfl Oa1.out rfl rfl rfl ?_;intro wa2 owna2 ga2;have Oa2:=Lib.hid owna2;have Sa2:=Lib.hid (Sa1.out.grown (by omega) ga2);clear owna2 ga2)
   | (refine insI rfl rfl (w.heap.size+1+1) 3 8 4 rfl rfl rfl Oa2.out rfl rfl rfl ?_;intro wa3 owna3 ga3;have Oa3:=Lib.hid owna3;have Sa3:=Lib.hid (Sa2.out.grown (by omega) ga3);clear owna3 ga3;have c0:wa3.cell? ⟨w.heap.size,0,none⟩=some (.int .i64 16):=blk_cell Sa3.out.F 0;have c2:wa3.cell? ⟨w.heap.size,2,none⟩=some (.int .u32 0):=blk_cell Sa3.out.F 2)
   | (refine lokI rfl rfl (w.heap.size+1+1) 4 rfl rfl Oa3.out rfl ?_;intro sza hata _;clear hata)
   | (refine insI rfl rfl wa3.heap.size 0 7 8 rfl rfl rfl (World.ownsMap_made _ _ _ _) rfl rfl rfl ?_;intro wb0 ownb0 gb0;have Ob0:=Lib.hid ownb0;have Sb0:=Lib.hid (PyS.grown (Sa3.out.alloc _) Sa3.out.lt gb0);clear ownb0 gb0)
   | (refine insI rfl rfl wa3.heap.size 1 16 4 rfl rfl rfl Ob0.out rfl rfl rfl ?_;intro wb1 ownb1 gb1;have Ob1:=Lib.hid ownb1;have Sb1:=Lib.hid (PyS.grown Sb0.out Sa3.out.lt gb1);clear ownb1 gb1;have d0:wb1.cell? ⟨w.heap.size,0,none⟩=some (.int .i64 16):=blk_cell Sb1.out.F 0;have d2:wb1.cell? ⟨w.heap.size,2,none⟩=some (.int .u32 0):=blk_cell Sb1.out.F 2)
   | (refine lokI rfl rfl wa3.heap.size 2 rfl rfl Ob1.out rfl ?_;intro szb hatb _;obtain rfl:szb=4:=(atI 4 hatb);clear hatb))
 have hF:=Sb1.out.F
 have hR:=Sb1.out.R
 have hB1:=Sb1.out.B
 have e4:wb1.cell? ⟨w.heap.size,4,none⟩=some (.slice none 0 0):=blk_cell hF 4
 have f4:=blk_free hF 4
 have e5:wb1.cell? ⟨w.heap.size,5,none⟩=some (.int .u32 0):=blk_cell hF 5
 have f5:=blk_free hF 5
 have HB0:Below w0.heap.size w0 wb1:=hB.trans (hB1.mono hB.size)
 generalize n31 b 0=p0 at *
 generalize n32 b 0=pw at *
 have hz1:(p0==0)=false:=beq_false_of_ne hz
 have F0:Hid (∀(W:World) (u:Value) (p:Int),W.heap[w.heap.size]? = some (.cells (frX (Fr.of ⟨16,fl,ln,0⟩) (.slice none 0 0) (.slice none 0 0)) 29 (0,0))→((W.setCell ⟨w.heap.size,5,none⟩ (.int .u32 p)).setCell ⟨w.heap.size,4,none⟩ u).drew.heap[w.heap.size]? = some (.cells (frX { Fr.of ⟨16,fl,ln,0⟩ with pr:=p } u (.slice none 0 0)) 29 (0,0))):=Lib.hid fun W u p hF=>by have:=(blk_set (blk_set hF 5 (.int .u32 p)) 4 u);rw [frX_pr,frX_data] at this;exact this
 have R0:Hid (∀(W:World) (u:Value) (p:Int),W.heap[w.heap.size+1]? = some (.cells rsZ 31 (0,0))→((W.setCell ⟨w.heap.size,5,none⟩ (.int .u32 p)).setCell ⟨w.heap.size,4,none⟩ u).drew.heap[w.heap.size+1]? = some (.cells rsZ 31 (0,0))):=Lib.hid fun W u p hR=>(blk_set_other (blk_set_other hR (Nat.succ_ne_self _) _) (Nat.succ_ne_self _) _)
 have F1:Hid (∀(W:World) (u:Value) (p:Int),W.heap[w.heap.size]? = some (.cells (frX (Fr.of ⟨16,fl,ln,0⟩) (.slice none 0 0) (.slice none 0 0)) 29 (0,0))→((W.setCell ⟨w.heap.size,4,none⟩ u).setCell ⟨w.heap.size,5,none⟩ (.int .u32 p)).drew.heap[w.heap.size]? = some (.cells (frX { Fr.of ⟨16,fl,ln,0⟩ with pr:=p } u (.slice none 0 0)) 29 (0,0))):=Lib.hid fun W u p hF=>by have:=(blk_set (blk_set hF 4 u) 5 (.int .u32 p));rw [frX_data,frX_pr] at this;exact this
 have R1:Hid (∀(W:World) (u:Value) (p:Int),W.heap[w.heap.size+1]? = some (.cells rsZ 31 (0,0))→((W.setCell ⟨w.heap.size,4,none⟩ u).setCell ⟨w.heap.size,5,none⟩ (.int .u32 p)).drew.heap[w.heap.size+1]? = some (.cells rsZ 31 (0,0))):=Lib.hid fun W u p hR=>(blk_set_other (blk_set_other hR (Nat.succ_ne_self _) _) (Nat.succ_ne_self _) _)
 have HF:=Lib.hid hF
 have HR:=Lib.hid hR
 clear hF hR
 go_region_held3 (fun w'=>Below w0.heap.size w0 w') (first|assumption|exact HB0.drew|(refine Below.drew ?_;first|exact HB0|exact HB0.setCell hB.size _|exact (HB0.setCell hB.size _).setCell hB.size _|exact ((HB0.setCell hB.size _).setCell hB.size _).setCell hB.size _)) (((first|(go_at_call 38;(with_reducible refine (NA.out _ (by assumption)).mono ?_);rintro e w' ⟨rfl,rfl⟩))))
 all_goals
   go_wp2_with (first
     | (refine wpList_load_blk rfl 29 _ rfl w.heap.size rfl (frX { Fr.of ⟨16,fl,ln,0⟩ with pr:=p0 } (.slice aC (n-4) cC) (.slice none 0 0)) 29 (F0.out _ _ _ HF.out) Tryz.underlying29 (infoFsX _ _ _) ?_;have HR9:=Lib.hid (R0.out wb1 (.slice aC (n-4) cC) p0 HR.out))
     | (refine wpList_build_rs rfl _ rfl (frX { Fr.of ⟨16,fl,ln,0⟩ with pr:=p0 } (.slice aC (n-4) cC) (.slice none 0 0)) rfl (frX_size14 _ _ _) ?_)
     | (refine wpList_store_blk rfl 31 _ _ rfl (w.heap.size+1) rfl (rsC 0 0 0 (frX { Fr.of ⟨16,fl,ln,0⟩ with pr:=p0 } (.slice aC (n-4) cC) (.slice none 0 0))) rsZ rfl 31 HR9.out (rsC_size _ _ _ _ _ _) (infoRsC _ _ _ _ _ _) (rsC_one _ _ _ _ _ _ _ _ _ _) ?_;intro w7 hb7 k7))
   exact ret_blk rfl (w.heap.size+1) _ _ rfl hb7 Tryz.underlying31 (infoRsC _ _ _ _ _ _) rfl (SpEnd.fr (sp_fin (((hB1.setCell (Nat.le_refl _) _).setCell (Nat.le_refl _) _).drew) k7) HC.out rfl rfl)
end Go.Proofs.YtfdlbjibninakaaGreatDoor

/- The reference's reading: the parameters of a SETTINGS frame. -/
import Derived.Test.YtfdlbjibninakaaGreatDoorSp3
import Derived.Deep.RegionHeld3
import Derived.Outline
set_option linter.unusedVariables false
set_option linter.unusedSimpArgs false
namespace Go.Proofs.YtfdlbjibninakaaGreatDoor
set_option maxRecDepth 100000
set_option maxHeartbeats 4000000
open Go.RowKit
theorem SpEnd.either {w0 w w':World} (p q:Bool) (h:Below w.heap.size w w'):SpEnd w0 w (Pl.eitherR p q) (.returned (.agg (rsX (Pl.eitherR p q) (.slice none 0 0) (.slice none 0 0)))) w':=by
 refine ⟨_,_,rfl,h,?_,?_,inK_nil' _⟩
 · cases p<;>cases q<;>exact rdB_nil _
 · cases p<;>cases q<;>exact RdP.nil _
theorem infoRX' (r:Rs) (dv sv:Value):(Tryz.prog.info? 31).map (·.size)=some (rsX r dv sv).size:=infoRs
theorem sSet_bad {h:Hd} {b:List Int} (p q:Bool) (hp:decide (h.st≠0)=p) (hq:(Pl.sAck h b||Pl.sMod b)=q) (hpq:(p||q)=true):Pl.sSettings h b=Pl.eitherR p q:=by
 unfold Pl.sSettings
 rw [hp,hq,Bool.or_assoc,hq,if_pos hpq]
def setR (h:Hd) (l:List (Int × Int)):Rs:=if l.any Pl.big4 then (if 1<Pl.wins l then .bad (-1) 0 0 else .bad 4 3 0) else .ok { Fr.of h with set:=l }
theorem sSet_good {h:Hd} {b:List Int} (hp:h.st=0) (hq:(Pl.sAck h b||Pl.sMod b)=false):Pl.sSettings h b=setR h (pairs (b.length / 6) b):=by
 unfold Pl.sSettings
 rw [Bool.or_assoc,hq,if_neg (by simp [hp])]
 rfl
theorem set_bad1 {w0 w:World} (fl st ln:Int) {a:Option Addr} {n c:Nat} {b:List Int} (hf0:0≤fl) (hf1:fl<256) (hr:RdB w0 (.slice a n c) b) (hB:Below w0.heap.size w0 w) (hb:Bs b) (hs:st≠0) (h1:bitOf fl 1=true) (hn:0<n) :
   Calls Tryz.prog 39 #[.agg (frX (Fr.of ⟨4,fl,ln,st⟩) (.slice none 0 0) (.slice none 0 0)),.slice a n c] w (SpEnd w0 w (Pl.sSettings ⟨4,fl,ln,st⟩ b)):=by
 obtain ⟨hnb,hnc,hcm⟩:=hr.len
 rw [sSet_bad true true (by simpa using hs) (by simp only [Pl.sAck,h1,Bool.true_and,decide_eq_true (show 0<b.length by omega),Bool.true_or]) rfl]
 have hand:=i64_and1 fl hf0 hf1
 rw [h1] at hand
 have hs':(st != 0)=true:=by simpa using hs
 have hl:(0:Int)<n:=by omega
 have HR0:Hid (((w.alloc (.cells #[.int .i64 4,.int .i64 fl,.int .u32 st,.int .i64 ln,.slice none 0 0,.int .u32 0,.int .u32 0,.int .u32 0,.int .u32 0,.bool false,.bool false,.int .u32 0,.int .i64 0,.slice none 0 0] 29)).alloc (.cells rsZ 31)).heap[w.heap.size+1]? = some (.cells rsZ 31 (0,0))):=Lib.hid (blk_at _ _ (by simp))
 have hB1:Below w.heap.size w ((w.alloc (.cells #[.int .i64 4,.int .i64 fl,.int .u32 st,.int .i64 ln,.slice none 0 0,.int .u32 0,.int .u32 0,.int .u32 0,.int .u32 0,.bool false,.bool false,.int .u32 0,.int .i64 0,.slice none 0 0] 29)).alloc (.cells rsZ 31)):=(((Kept.refl (· < w.heap.size) w).alloc _).alloc _).below (Nat.le_refl _)
 show Calls Tryz.prog 39 #[.agg #[.int .i64 4,.int .i64 fl,.int .u32 st,.int .i64 ln,.slice none 0 0,.int .u32 0,.int .u32 0,.int .u32 0,.int .u32 0,.bool false,.bool false,.int .u32 0,.int .i64 0,.slice none 0 0],.slice a n c] w _
 unfold rsZ at HR0 hB1
 clear hr hb hnb
 go_enter Tryz.func39,Tryz.ntmps39
 go_wp2_with (first
   | (go_at_call 40;refine (eitherS_any true true _).mono ?_;rintro e w1 ⟨rfl,b1⟩;have hR1:=blk_below HR0.out b1)
   | (refine wpList_store_blk rfl 31 _ _ rfl (w.heap.size+1) rfl (rsX (Pl.eitherR true true) (.slice none 0 0) (.slice none 0 0)) _ rfl 31 hR1 (rsX_size _ _ _) (infoRX' _ _ _) (rsX_one _ _ _ _ _ _ _) ?_;intro w2 hb2 k2))
 refine ret_blk rfl (w.heap.size+1) _ _ rfl hb2 Tryz.underlying31 (infoRX' _ _ _) rfl (SpEnd.either _ _ ?_)
 exact sp_fin (Below.step' hB1 b1) k2
theorem set_bad2 {w0 w:World} (fl st ln:Int) {a:Option Addr} {n c:Nat} {b:List Int} (hf0:0≤fl) (hf1:fl<256) (hr:RdB w0 (.slice a n c) b) (hB:Below w0.heap.size w0 w) (hb:Bs b) (hs:st≠0) (h1:bitOf fl 1=false) (hm:n%6≠0) :
   Calls Tryz.prog 39 #[.agg (frX (Fr.of ⟨4,fl,ln,st⟩) (.slice none 0 0) (.slice none 0 0)),.slice a n c] w (SpEnd w0 w (Pl.sSettings ⟨4,fl,ln,st⟩ b)):=by
 obtain ⟨hnb,hnc,hcm⟩:=hr.len
 rw [sSet_bad true true (by simpa using hs) (by simp only [Pl.sAck,Pl.sMod,h1,Bool.false_and,Bool.false_or];exact decide_eq_true (by omega)) rfl]
 have hand:=i64_and1 fl hf0 hf1
 rw [h1] at hand
 have hs':(st != 0)=true:=by simpa using hs
 have hm':((n:Int)%6 != 0)=true:=by simp;omega
 have HR0:Hid (((w.alloc (.cells #[.int .i64 4,.int .i64 fl,.int .u32 st,.int .i64 ln,.slice none 0 0,.int .u32 0,.int .u32 0,.int .u32 0,.int .u32 0,.bool false,.bool false,.int .u32 0,.int .i64 0,.slice none 0 0] 29)).alloc (.cells rsZ 31)).heap[w.heap.size+1]? = some (.cells rsZ 31 (0,0))):=Lib.hid (blk_at _ _ (by simp))
 have hB1:Below w.heap.size w ((w.alloc (.cells #[.int .i64 4,.int .i64 fl,.int .u32 st,.int .i64 ln,.slice none 0 0,.int .u32 0,.int .u32 0,.int .u32 0,.int .u32 0,.bool false,.bool false,.int .u32 0,.int .i64 0,.slice none 0 0] 29)).alloc (.cells rsZ 31)):=(((Kept.refl (· < w.heap.size) w).alloc _).alloc _).below (Nat.le_refl _)
 show Calls Tryz.prog 39 #[.agg #[.int .i64 4,.int .i64 fl,.int .u32 st,.int .i64 ln,.slice none 0 0,.int .u32 0,.int .u32 0,.int .u32 0,.int .u32 0,.bool false,.bool false,.int .u32 0,.int .i64 0,.slice none 0 0],.slice a n c] w _
 unfold rsZ at HR0 hB1
 clear hr hb hnb
 go_enter Tryz.func39,Tryz.ntmps39
 go_wp2_with (first
   | (go_at_call 40;refine (eitherS_any true true _).mono ?_;rintro e w1 ⟨rfl,b1⟩;have hR1:=blk_below HR0.out b1)
   | (refine wpList_store_blk rfl 31 _ _ rfl (w.heap.size+1) rfl (rsX (Pl.eitherR true true) (.slice none 0 0) (.slice none 0 0)) _ rfl 31 hR1 (rsX_size _ _ _) (infoRX' _ _ _) (rsX_one _ _ _ _ _ _ _) ?_;intro w2 hb2 k2))
 refine ret_blk rfl (w.heap.size+1) _ _ rfl hb2 Tryz.underlying31 (infoRX' _ _ _) rfl (SpEnd.either _ _ ?_)
 exact sp_fin (Below.step' hB1 b1) k2
theorem set_bad3 {w0 w:World} (fl st ln:Int) {a:Option Addr} {n c:Nat} {b:List Int} (hf0:0≤fl) (hf1:fl<256) (hr:RdB w0 (.slice a n c) b) (hB:Below w0.heap.size w0 w) (hb:Bs b) (hs:st≠0) (h1:bitOf fl 1=false) (hm:n%6=0) :
   Calls Tryz.prog 39 #[.agg (frX (Fr.of ⟨4,fl,ln,st⟩) (.slice none 0 0) (.slice none 0 0)),.slice a n c] w (SpEnd w0 w (Pl.sSettings ⟨4,fl,ln,st⟩ b)):=by
 obtain ⟨hnb,hnc,hcm⟩:=hr.len
 rw [sSet_bad true false (by simpa using hs) (by simp only [Pl.sAck,Pl.sMod,h1,Bool.false_and,Bool.false_or];exact decide_eq_false (by omega)) rfl]
 have hand:=i64_and1 fl hf0 hf1
 rw [h1] at hand
 have hs':(st != 0)=true:=by simpa using hs
 have hm':((n:Int)%6 != 0)=false:=by simp;omega
 clear hm
 have HR0:Hid (((w.alloc (.cells #[.int .i64 4,.int .i64 fl,.int .u32 st,.int .i64 ln,.slice none 0 0,.int .u32 0,.int .u32 0,.int .u32 0,.int .u32 0,.bool false,.bool false,.int .u32 0,.int .i64 0,.slice none 0 0] 29)).alloc (.cells rsZ 31)).heap[w.heap.size+1]? = some (.cells rsZ 31 (0,0))):=Lib.hid (blk_at _ _ (by simp))
 have hB1:Below w.heap.size w ((w.alloc (.cells #[.int .i64 4,.int .i64 fl,.int .u32 st,.int .i64 ln,.slice none 0 0,.int .u32 0,.int .u32 0,.int .u32 0,.int .u32 0,.bool false,.bool false,.int .u32 0,.int .i64 0,.slice none 0 0] 29)).alloc (.cells rsZ 31)):=(((Kept.refl (· < w.heap.size) w).alloc _).alloc _).below (Nat.le_refl _)
 show Calls Tryz.prog 39 #[.agg #[.int .i64 4,.int .i64 fl,.int .u32 st,.int .i64 ln,.slice none 0 0,.int .u32 0,.int .u32 0,.int .u32 0,.int .u32 0,.bool false,.bool false,.int .u32 0,.int .i64 0,.slice none 0 0],.slice a n c] w _
 unfold rsZ at HR0 hB1
 clear hr hb hnb
 go_enter Tryz.func39,Tryz.ntmps39
 go_wp2_with (first
   | (go_at_call 40;refine (eitherS_any true false _).mono ?_;rintro e w1 ⟨rfl,b1⟩;have hR1:=blk_below HR0.out b1)
   | (refine wpList_store_blk rfl 31 _ _ rfl (w.heap.size+1) rfl (rsX (Pl.eitherR true false) (.slice none 0 0) (.slice none 0 0)) _ rfl 31 hR1 (rsX_size _ _ _) (infoRX' _ _ _) (rsX_one _ _ _ _ _ _ _) ?_;intro w2 hb2 k2))
 refine ret_blk rfl (w.heap.size+1) _ _ rfl hb2 Tryz.underlying31 (infoRX' _ _ _) rfl (SpEnd.either _ _ ?_)
 exact sp_fin (Below.step' hB1 b1) k2
theorem set_bad4 {w0 w:World} (fl st ln:Int) {a:Option Addr} {n c:Nat} {b:List Int} (hf0:0≤fl) (hf1:fl<256) (hr:RdB w0 (.slice a n c) b) (hB:Below w0.heap.size w0 w) (hb:Bs b) (hs:st≠0) (h1:bitOf fl 1=true) (hn:n=0) :
   Calls Tryz.prog 39 #[.agg (frX (Fr.of ⟨4,fl,ln,st⟩) (.slice none 0 0) (.slice none 0 0)),.slice a n c] w (SpEnd w0 w (Pl.sSettings ⟨4,fl,ln,st⟩ b)):=by
 obtain ⟨hnb,hnc,hcm⟩:=hr.len
 rw [sSet_bad true false (by simpa using hs) (by simp only [Pl.sAck,Pl.sMod,h1,Bool.true_and,decide_eq_false (show ¬0<b.length by omega),Bool.false_or];exact decide_eq_false (by omega)) rfl]
 have hand:=i64_and1 fl hf0 hf1
 rw [h1] at hand
 have hs':(st != 0)=true:=by simpa using hs
 have hl:¬(0:Int)<n:=by omega
 have hm':((n:Int)%6 != 0)=false:=by simp;omega
 clear hn
 have HR0:Hid (((w.alloc (.cells #[.int .i64 4,.int .i64 fl,.int .u32 st,.int .i64 ln,.slice none 0 0,.int .u32 0,.int .u32 0,.int .u32 0,.int .u32 0,.bool false,.bool false,.int .u32 0,.int .i64 0,.slice none 0 0] 29)).alloc (.cells rsZ 31)).heap[w.heap.size+1]? = some (.cells rsZ 31 (0,0))):=Lib.hid (blk_at _ _ (by simp))
 have hB1:Below w.heap.size w ((w.alloc (.cells #[.int .i64 4,.int .i64 fl,.int .u32 st,.int .i64 ln,.slice none 0 0,.int .u32 0,.int .u32 0,.int .u32 0,.int .u32 0,.bool false,.bool false,.int .u32 0,.int .i64 0,.slice none 0 0] 29)).alloc (.cells rsZ 31)):=(((Kept.refl (· < w.heap.size) w).alloc _).alloc _).below (Nat.le_refl _)
 show Calls Tryz.prog 39 #[.agg #[.int .i64 4,.int .i64 fl,.int .u32 st,.int .i64 ln,.slice none 0 0,.int .u32 0,.int .u32 0,.int .u32 0,.int .u32 0,.bool false,.bool false,.int .u32 0,.int .i64 0,.slice none 0 0],.slice a n c] w _
 unfold rsZ at HR0 hB1
 clear hr hb hnb
 go_enter Tryz.func39,Tryz.ntmps39
 go_wp2_with (first
   | (go_at_call 40;refine (eitherS_any true false _).mono ?_;rintro e w1 ⟨rfl,b1⟩;have hR1:=blk_below HR0.out b1)
   | (refine wpList_store_blk rfl 31 _ _ rfl (w.heap.size+1) rfl (rsX (Pl.eitherR true false) (.slice none 0 0) (.slice none 0 0)) _ rfl 31 hR1 (rsX_size _ _ _) (infoRX' _ _ _) (rsX_one _ _ _ _ _ _ _) ?_;intro w2 hb2 k2))
 refine ret_blk rfl (w.heap.size+1) _ _ rfl hb2 Tryz.underlying31 (infoRX' _ _ _) rfl (SpEnd.either _ _ ?_)
 exact sp_fin (Below.step' hB1 b1) k2
theorem set_bad5 {w0 w:World} (fl ln:Int) {a:Option Addr} {n c:Nat} {b:List Int} (hf0:0≤fl) (hf1:fl<256) (hr:RdB w0 (.slice a n c) b) (hB:Below w0.heap.size w0 w) (hb:Bs b) (h1:bitOf fl 1=true) (hn:0<n) :
   Calls Tryz.prog 39 #[.agg (frX (Fr.of ⟨4,fl,ln,0⟩) (.slice none 0 0) (.slice none 0 0)),.slice a n c] w (SpEnd w0 w (Pl.sSettings ⟨4,fl,ln,0⟩ b)):=by
 obtain ⟨hnb,hnc,hcm⟩:=hr.len
 rw [sSet_bad false true (by simp) (by simp only [Pl.sAck,h1,Bool.true_and,decide_eq_true (show 0<b.length by omega),Bool.true_or]) rfl]
 have hand:=i64_and1 fl hf0 hf1
 rw [h1] at hand
 have hl:(0:Int)<n:=by omega
 have HR0:Hid (((w.alloc (.cells #[.int .i64 4,.int .i64 fl,.int .u32 0,.int .i64 ln,.slice none 0 0,.int .u32 0,.int .u32 0,.int .u32 0,.int .u32 0,.bool false,.bool false,.int .u32 0,.int .i64 0,.slice none 0 0] 29)).alloc (.cells rsZ 31)).heap[w.heap.size+1]? = some (.cells rsZ 31 (0,0))):=Lib.hid (blk_at _ _ (by simp))
 have hB1:Below w.heap.size w ((w.alloc (.cells #[.int .i64 4,.int .i64 fl,.int .u32 0,.int .i64 ln,.slice none 0 0,.int .u32 0,.int .u32 0,.int .u32 0,.int .u32 0,.bool false,.bool false,.int .u32 0,.int .i64 0,.slice none 0 0] 29)).alloc (.cells rsZ 31)):=(((Kept.refl (· < w.heap.size) w).alloc _).alloc _).below (Nat.le_refl _)
 show Calls Tryz.prog 39 #[.agg #[.int .i64 4,.int .i64 fl,.int .u32 0,.int .i64 ln,.slice none 0 0,.int .u32 0,.int .u32 0,.int .u32 0,.int .u32 0,.bool false,.bool false,.int .u32 0,.int .i64 0,.slice none 0 0],.slice a n c] w _
 unfold rsZ at HR0 hB1
 clear hr hb hnb
 go_enter Tryz.func39,Tryz.ntmps39
 go_wp2_with (first
   | (go_at_call 40;refine (eitherS_any false true _).mono ?_;rintro e w1 ⟨rfl,b1⟩;have hR1:=blk_below HR0.out b1)
   | (refine wpList_store_blk rfl 31 _ _ rfl (w.heap.size+1) rfl (rsX (Pl.eitherR false true) (.slice none 0 0) (.slice none 0 0)) _ rfl 31 hR1 (rsX_size _ _ _) (infoRX' _ _ _) (rsX_one _ _ _ _ _ _ _) ?_;intro w2 hb2 k2))
 refine ret_blk rfl (w.heap.size+1) _ _ rfl hb2 Tryz.underlying31 (infoRX' _ _ _) rfl (SpEnd.either _ _ ?_)
 exact sp_fin (Below.step' hB1 b1) k2
theorem set_bad6 {w0 w:World} (fl ln:Int) {a:Option Addr} {n c:Nat} {b:List Int} (hf0:0≤fl) (hf1:fl<256) (hr:RdB w0 (.slice a n c) b) (hB:Below w0.heap.size w0 w) (hb:Bs b) (h1:bitOf fl 1=false) (hm:n%6≠0) :
   Calls Tryz.prog 39 #[.agg (frX (Fr.of ⟨4,fl,ln,0⟩) (.slice none 0 0) (.slice none 0 0)),.slice a n c] w (SpEnd w0 w (Pl.sSettings ⟨4,fl,ln,0⟩ b)):=by
 obtain ⟨hnb,hnc,hcm⟩:=hr.len
 rw [sSet_bad false true (by simp) (by simp only [Pl.sAck,Pl.sMod,h1,Bool.false_and,Bool.false_or];exact decide_eq_true (by omega)) rfl]
 have hand:=i64_and1 fl hf0 hf1
 rw [h1] at hand
 have hm':((n:Int)%6 != 0)=true:=by simp;omega
 have HR0:Hid (((w.alloc (.cells #[.int .i64 4,.int .i64 fl,.int .u32 0,.int .i64 ln,.slice none 0 0,.int .u32 0,.int .u32 0,.int .u32 0,.int .u32 0,.bool false,.bool false,.int .u32 0,.int .i64 0,.slice none 0 0] 29)).alloc (.cells rsZ 31)).heap[w.heap.size+1]? = some (.cells rsZ 31 (0,0))):=Lib.hid (blk_at _ _ (by simp))
 have hB1:Below w.heap.size w ((w.alloc (.cells #[.int .i64 4,.int .i64 fl,.int .u32 0,.int .i64 ln,.slice none 0 0,.int .u32 0,.int .u32 0,.int .u32 0,.int .u32 0,.bool false,.bool false,.int .u32 0,.int .i64 0,.slice none 0 0] 29)).alloc (.cells rsZ 31)):=(((Kept.refl (· < w.heap.size) w).alloc _).alloc _).below (Nat.le_refl _)
 show Calls Tryz.prog 39 #[.agg #[.int .i64 4,.int .i64 fl,.int .u32 0,.int .i64 ln,.slice none 0 0,.int .u32 0,.int .u32 0,.int .u32 0,.int .u32 0,.bool false,.bool false,.int .u32 0,.int .i64 0,.slice none 0 0],.slice a n c] w _
 unfold rsZ at HR0 hB1
 clear hr hb hnb
 go_enter Tryz.func39,Tryz.ntmps39
 go_wp2_with (first
   | (go_at_call 40;refine (eitherS_any false true _).mono ?_;rintro e w1 ⟨rfl,b1⟩;have hR1:=blk_below HR0.out b1)
   | (refine wpList_store_blk rfl 31 _ _ rfl (w.heap.size+1) rfl (rsX (Pl.eitherR false true) (.slice none 0 0) (.slice none 0 0)) _ rfl 31 hR1 (rsX_size _ _ _) (infoRX' _ _ _) (rsX_one _ _ _ _ _ _ _) ?_;intro w2 hb2 k2))
 refine ret_blk rfl (w.heap.size+1) _ _ rfl hb2 Tryz.underlying31 (infoRX' _ _ _) rfl (SpEnd.either _ _ ?_)
 exact sp_fin (Below.step' hB1 b1) k2
theorem wins_snoc (l:List (Int × Int)) (p:Int × Int):Pl.wins (l ++ [p])=Pl.wins l+if p.1=4 then 1 else 0:=by
 unfold Pl.wins
 rw [List.filter_append,List.length_append]
 by_cases h:p.1=4<;>simp [h]
theorem wins_le (l:List (Int × Int)):Pl.wins l≤l.length:=List.length_filter_le _ _
theorem pairs_len' (N:Nat) (b:List Int):(pairs N b).length=N:=by
 induction N generalizing b with
 | zero=>rfl
 | succ N ih=>simp [pairs,ih]
theorem pairs_atS (N:Nat) (b:List Int) (k:Nat) (h:k<N):(pairs N b)[k]? = some (n16 (b.drop (6*k)) 0,n32 (b.drop (6*k)) 2):=by
 induction N generalizing b k with
 | zero=>omega
 | succ N ih =>
   cases k with
   | zero=>rfl
   | succ k =>
     show (pairs N (b.drop 6))[k]? = _
     rw [ih _ _ (by omega),List.drop_drop,show 6+6*k=6*(k+1) by omega]
theorem prV_snocS (l:List (Int × Int)) (k:Nat) (p:Int × Int) (h:l[k]? = some p):l.take (k+1)=l.take k ++ [p]∧prV (l.take (k+1))=prV (l.take k) ++ [.int .i64 p.1,.int .u32 p.2]:=by
 obtain ⟨hlt,he⟩:=List.getElem?_eq_some_iff.1 h
 have e:l.take (k+1)=l.take k ++ [p]:=by rw [List.take_succ_eq_append_getElem hlt,he]
 exact ⟨e,by rw [e,prV_app];rfl⟩
theorem numOf_2 (b:List Int) (h:2≤b.length):numOf (b.take 2)=n16 b 0:=by
 match b,h with
 | a0::a1::b,_=>simp [numOf,n16,gb]
theorem numOf_26 (b:List Int) (h:6≤b.length):numOf ((b.take 6).drop 2)=n32 b 2:=by
 match b,h with
 | a0::a1::a2::a3::a4::a5::b,_=>simp [numOf,n32,gb];omega
theorem ESs:Elem Tryz.prog 27 97 2 16 (.agg #[.int .i64 0,.int .u32 0]):=⟨Tryz.underlying27,by kernel_rfl,rfl,by decide⟩
theorem infoSl2:(Tryz.prog.info? 27).map (·.size)=some 1:=by kernel_rfl
theorem SpEnd.sets {w0 w w':World} {h:Hd} {l:List (Int × Int)} {sv:Value} (hB:Below w.heap.size w w') (hs:RdP w' sv l) (hk:inK (w.heap.size ≤ ·) sv):SpEnd w0 w (.ok { Fr.of h with set:=l }) (.returned (.agg (rsC 0 0 0 (frX (Fr.of h) (.slice none 0 0) sv)))) w':=
 ⟨.slice none 0 0,sv,rfl,hB,rdB_nil _,hs,hk⟩
theorem infoSs2:(Tryz.prog.info? 97).map (·.size)=some 2:=by kernel_rfl
theorem inK_own {w:World} {e size n:Nat} {v:Value} {xs:List Value} {K:Nat→Prop} (h:Row w e size v n xs) (hk:∀g,v.ownBlock=some g→K g):inK K v:=by
 rcases h.2 with ⟨rfl,_⟩|⟨g,cap,cur,rfl,_⟩
 · trivial
 · exact .inr (hk g rfl)
theorem set_good0 {w0 w:World} (fl ln:Int) {a:Option Addr} (c:Nat) (hf0:0≤fl) (hf1:fl<256) (h1:bitOf fl 1=true) :
   Calls Tryz.prog 39 #[.agg (frX (Fr.of ⟨4,fl,ln,0⟩) (.slice none 0 0) (.slice none 0 0)),.slice a 0 c] w (SpEnd w0 w (setR ⟨4,fl,ln,0⟩ [])):=by
 have hand:=i64_and1 fl hf0 hf1
 rw [h1] at hand
 have HF0:Hid (((w.alloc (.cells #[.int .i64 4,.int .i64 fl,.int .u32 0,.int .i64 ln,.slice none 0 0,.int .u32 0,.int .u32 0,.int .u32 0,.int .u32 0,.bool false,.bool false,.int .u32 0,.int .i64 0,.slice none 0 0] 29)).alloc (.cells rsZ 31)).heap[w.heap.size]? = some (.cells (frX (Fr.of ⟨4,fl,ln,0⟩) (.slice none 0 0) (.slice none 0 0)) 29 (0,0))):=Lib.hid (blk_alloc (blk_new w _))
 have HR0:Hid (((w.alloc (.cells #[.int .i64 4,.int .i64 fl,.int .u32 0,.int .i64 ln,.slice none 0 0,.int .u32 0,.int .u32 0,.int .u32 0,.int .u32 0,.bool false,.bool false,.int .u32 0,.int .i64 0,.slice none 0 0] 29)).alloc (.cells rsZ 31)).heap[w.heap.size+1]? = some (.cells rsZ 31 (0,0))):=Lib.hid (blk_at _ _ (by simp))
 have hB1:Below w.heap.size w ((w.alloc (.cells #[.int .i64 4,.int .i64 fl,.int .u32 0,.int .i64 ln,.slice none 0 0,.int .u32 0,.int .u32 0,.int .u32 0,.int .u32 0,.bool false,.bool false,.int .u32 0,.int .i64 0,.slice none 0 0] 29)).alloc (.cells rsZ 31)):=(((Kept.refl (· < w.heap.size) w).alloc _).alloc _).below (Nat.le_refl _)
 unfold rsZ at HF0 HR0 hB1
 show Calls Tryz.prog 39 #[.agg #[.int .i64 4,.int .i64 fl,.int .u32 0,.int .i64 ln,.slice none 0 0,.int .u32 0,.int .u32 0,.int .u32 0,.int .u32 0,.bool false,.bool false,.int .u32 0,.int .i64 0,.slice none 0 0],.slice a 0 c] w _
 go_enter Tryz.func39,Tryz.ntmps39
 go_wp2_with fail
 refine wp_loop_rounds 1 ?_
 rw [rounds_succ]
 go_wp2_with fail
 refine wp_loop_rounds 1 ?_
 rw [rounds_succ]
 go_wp2_with (first
   | (refine wpList_load_blk rfl 29 _ rfl w.heap.size rfl (frX (Fr.of ⟨4,fl,ln,0⟩) (.slice none 0 0) (.slice none 0 0)) 29 HF0.out Tryz.underlying29 (infoFsX _ _ _) ?_)
   | (refine wpList_build_rs rfl _ rfl (frX (Fr.of ⟨4,fl,ln,0⟩) (.slice none 0 0) (.slice none 0 0)) rfl (frX_size14 _ _ _) ?_)
   | (refine wpList_store_blk rfl 31 _ _ rfl (w.heap.size+1) rfl (rsC 0 0 0 (frX (Fr.of ⟨4,fl,ln,0⟩) (.slice none 0 0) (.slice none 0 0))) _ rfl 31 HR0.out (rsC_size _ _ _ _ _ _) (infoRsC _ _ _ _ _ _) (rsC_one _ _ _ _ _ _ _ _ _ _) ?_;intro w3 hb3 k3))
 refine ret_blk rfl (w.heap.size+1) _ _ rfl hb3 Tryz.underlying31 (infoRsC _ _ _ _ _ _) rfl ?_
 exact ⟨.slice none 0 0,.slice none 0 0,rfl,sp_fin hB1 k3,rdB_nil _,RdP.nil _,inK_nil' _⟩
theorem set_good {w0 w:World} (fl ln:Int) {a:Option Addr} {n c:Nat} {b:List Int} (hf0:0≤fl) (hf1:fl<256) (hr:RdB w0 (.slice a n c) b) (hB:Below w0.heap.size w0 w) (hb:Bs b) (N:Nat) (hN:n=6*N) (hn:n≤16777216) (h1:bitOf fl 1=false) :
   Calls Tryz.prog 39 #[.agg (frX (Fr.of ⟨4,fl,ln,0⟩) (.slice none 0 0) (.slice none 0 0)),.slice a n c] w (SpEnd w0 w (setR ⟨4,fl,ln,0⟩ (pairs N b))):=by
 have hand:=i64_and1 fl hf0 hf1
 have hm':((n:Int)%6 != 0)=false:=by simp;omega
 have HF0:Hid (((w.alloc (.cells #[.int .i64 4,.int .i64 fl,.int .u32 0,.int .i64 ln,.slice none 0 0,.int .u32 0,.int .u32 0,.int .u32 0,.int .u32 0,.bool false,.bool false,.int .u32 0,.int .i64 0,.slice none 0 0] 29)).alloc (.cells rsZ 31)).heap[w.heap.size]? = some (.cells (frX (Fr.of ⟨4,fl,ln,0⟩) (.slice none 0 0) (.slice none 0 0)) 29 (0,0))):=Lib.hid (blk_alloc (blk_new w _))
 have HR0:Hid (((w.alloc (.cells #[.int .i64 4,.int .i64 fl,.int .u32 0,.int .i64 ln,.slice none 0 0,.int .u32 0,.int .u32 0,.int .u32 0,.int .u32 0,.bool false,.bool false,.int .u32 0,.int .i64 0,.slice none 0 0] 29)).alloc (.cells rsZ 31)).heap[w.heap.size+1]? = some (.cells rsZ 31 (0,0))):=Lib.hid (blk_at _ _ (by simp))
 have hB1:Below w.heap.size w ((w.alloc (.cells #[.int .i64 4,.int .i64 fl,.int .u32 0,.int .i64 ln,.slice none 0 0,.int .u32 0,.int .u32 0,.int .u32 0,.int .u32 0,.bool false,.bool false,.int .u32 0,.int .i64 0,.slice none 0 0] 29)).alloc (.cells rsZ 31)):=(((Kept.refl (· < w.heap.size) w).alloc _).alloc _).below (Nat.le_refl _)
 have hs1:w.heap.size+1<((w.alloc (.cells #[.int .i64 4,.int .i64 fl,.int .u32 0,.int .i64 ln,.slice none 0 0,.int .u32 0,.int .u32 0,.int .u32 0,.int .u32 0,.bool false,.bool false,.int .u32 0,.int .i64 0,.slice none 0 0] 29)).alloc (.cells rsZ 31)).heap.size:=by simp
 unfold rsZ at HF0 HR0 hB1 hs1
 show Calls Tryz.prog 39 #[.agg #[.int .i64 4,.int .i64 fl,.int .u32 0,.int .i64 ln,.slice none 0 0,.int .u32 0,.int .u32 0,.int .u32 0,.int .u32 0,.bool false,.bool false,.int .u32 0,.int .i64 0,.slice none 0 0],.slice a n c] w _
 have HN:=Lib.hid hN
 have HRD:=Lib.hid hr
 have HBS:=Lib.hid hb
 clear hr hb hN
 rw [h1] at hand
 clear h1
 go_enter Tryz.func39,Tryz.ntmps39
 go_wp2_with fail
 clear hand hm'
 go_loopw [1,6] (fun s x wr => ∃k:Nat,k≤N ∧ ∃a' c',s = .slice a' (n-6*k) c'∧RdB w0 (.slice a' (n-6*k) c') (b.drop (6*k))∧x = .int .i64 (Pl.wins ((pairs N b).take k)) ∧ ∃sv,wr.heap[w.heap.size]? = some (.cells (frX (Fr.of ⟨4,fl,ln,0⟩) (.slice none 0 0) sv) 29 (0,0))∧Row wr 97 2 sv k (prV ((pairs N b).take k))∧Fresh w.heap.size sv∧wr.heap[w.heap.size+1]? = some (.cells rsZ 31 (0,0))∧Below w.heap.size w wr∧w.heap.size+1<wr.heap.size) (fun s _ _=>match s with | .slice _ m _=>m|_=>0)
 case atStart=>exact ⟨0,Nat.zero_le _,a,c,rfl,HRD.out,rfl,_,HF0.out,World.ownsRow_nil _ _ _ _,Fresh.nil _,HR0.out,hB1,hs1⟩
 case round =>
   obtain ⟨k,hk,a',c',rfl,hr',rfl,sv,hF,hrow,hfr,hR,hbel,hsz⟩:=hrel
   clear HF0 HR0 hB1 hs1
   by_cases hlt:k<N
   · obtain ⟨m,hm⟩:∃m,n-6*k=m:=⟨_,rfl⟩
     rw [hm] at hr' ⊢
     have hm6:6≤m:=by have:=HN.out;omega
     have hm0:(0:Int)<m:=by omega
     have hkb:k≤3000000:=by have:=HN.out;omega
     obtain ⟨hml,hmc,hcm⟩:=hr'.len
     have hbs':Bs (b.drop (6*k)):=HBS.out.drop _
     obtain ⟨aA,cA,hsA,hrA,-⟩:=slice_to hr' E5.sl E5s (m:=2) (by omega)
     obtain ⟨aB,cB,hsB,hrB,-⟩:=slice_mid hr' E5.sl E5s (n:=2) (m:=6) (by omega) (by omega)
     obtain ⟨vC,hsC,hrC,-⟩:=slice_from hr' E5.sl E5s (n:=6) (by omega)
     rw [List.drop_drop,show 6*k+6=6*(k+1) by omega] at hrC
     have hCl:(b.drop (6*(k+1))).length=m-6:=by rw [List.length_drop] at hml ⊢;omega
     obtain ⟨aC,cC,rfl,-,-,-⟩:=id hrC
     rw [hCl] at hsC hrC
     replace hsA:∀w,(Instr.slice 22 (.slice a' m c') none (some (.int .i64 2)) none).run Tryz.prog w = .ok (.slice aA 2 cA) w:=hsA
     replace hsB:∀w,(Instr.slice 22 (.slice a' m c') (some (.int .i64 2)) (some (.int .i64 6)) none).run Tryz.prog w = .ok (.slice aB 4 cB) w:=hsB
     replace hsC:∀w,(Instr.slice 22 (.slice a' m c') (some (.int .i64 6)) none none).run Tryz.prog w = .ok (.slice aC (m-6) cC) w:=hsC
     have numA:∀W,Below w0.heap.size w0 W→Calls Tryz.prog 38 #[.slice aA 2 cA] W fun e w'=>e = .returned (.int .u32 (n16 (b.drop (6*k)) 0))∧W=w':=fun W hW=>by
       have hl:((b.drop (6*k)).take 2).length=2:=by rw [List.length_take];omega
       have:=number_any aA cA _ W (by rw [hl];exact hrA.below hW) (hbs'.take 2) (by omega)
       rw [hl,numOf_2 _ (by omega)] at this
       exact this
     have numB:∀W,Below w0.heap.size w0 W→Calls Tryz.prog 38 #[.slice aB 4 cB] W fun e w'=>e = .returned (.int .u32 (n32 (b.drop (6*k)) 2))∧W=w':=fun W hW=>by
       have hl:(((b.drop (6*k)).take 6).drop 2).length=4:=by rw [List.length_drop,List.length_take];omega
       have:=number_any aB cB _ W (by rw [hl];exact hrB.below hW) ((hbs'.take 6).drop 2) (by omega)
       rw [hl,numOf_26 _ (by omega)] at this
       exact this
     have hp:=pairs_atS N b k hlt
     have hx0:0≤n16 (b.drop (6*k)) 0:=(Pl.n16_bd (b:=b.drop (6*k)) hbs' 0).1
     have hx1:n16 (b.drop (6*k)) 0<65536:=(Pl.n16_bd (b:=b.drop (6*k)) hbs' 0).2
     have hy0:0≤n32 (b.drop (6*k)) 2:=(Pl.n32_bd (b:=b.drop (6*k)) hbs' 2).1
     have hy1:n32 (b.drop (6*k)) 2<4294967296:=(Pl.n32_bd (b:=b.drop (6*k)) hbs' 2).2
     obtain ⟨htk,hps⟩:=prV_snocS _ _ _ hp
     have hwn:Pl.wins ((pairs N b).take (k+1))=Pl.wins ((pairs N b).take k)+if n16 (b.drop (6*k)) 0=4 then 1 else 0:=by rw [htk,wins_snoc]
     have hwl:Pl.wins ((pairs N b).take k)≤16777216:=Nat.le_trans (wins_le _) (by rw [List.length_take];have:=HN.out;omega)
     have BW:Below w0.heap.size w0 wr:=hB.trans (hbel.mono hB.size)
     have hne:=own_block hrow hF (by decide)
     have hne2:=own_block hrow hR (by decide)
     obtain ⟨sa,sc,rfl,hsc,hsm⟩:=own_shape hrow
     have c13:wr.cell? ⟨w.heap.size,13,none⟩=some (.slice sa k sc):=blk_cell hF 13
     have f13:=blk_free hF 13
     have HP:=Lib.hid hps
     have HW:=Lib.hid hwn
     have HF:=Lib.hid hF
     have HR:=Lib.hid hR
     have HC:=Lib.hid hrC
     have HM:=Lib.hid hm
     have NA:=Lib.hid numA
     have NB:=Lib.hid numB
     clear hps hwn hp htk hF hR hrC hrA hrB hr' numA numB hbs' hml hm hCl
     generalize n16 (b.drop (6*k)) 0=x at *
     generalize n32 (b.drop (6*k)) 2=y at *
     generalize Pl.wins ((pairs N b).take k)=wk at *
     have hwx:IntKind.i64.wrap x=x:=IntWalk.i64_in _ ⟨by omega,by omega⟩
     go_wp2_with fail
     go_region_held3 (fun w'=>Below w0.heap.size w0 w') (first|assumption|exact BW.drew|exact BW.drew.alloc BW.size _|(refine Below.setCell ?_ ?_ _)) ((first|(go_at_call 38;(with_reducible refine (NA.out _ (by assumption)).mono ?_);rintro e w' ⟨rfl,rfl⟩)|(go_at_call 38;(with_reducible refine (NB.out _ (by assumption)).mono ?_);rintro e w' ⟨rfl,rfl⟩)))
     all_goals
       have b1:Below wr.heap.size wr (wr.alloc (.cells #[.int .i64 x,.int .u32 y] 97)).drew:=((Below.refl _ _).alloc (Nat.le_refl _) _).drew
       have s0:(wr.alloc (.cells #[.int .i64 x,.int .u32 y] 97)).drew.cell? ⟨wr.heap.size,0,none⟩=some (.int .i64 x):=blk_cell (blk_new wr _) 0
       have s1:(wr.alloc (.cells #[.int .i64 x,.int .u32 y] 97)).drew.cell? ⟨wr.heap.size,1,none⟩=some (.int .u32 y):=blk_cell (blk_new wr _) 1
       have d13:(wr.alloc (.cells #[.int .i64 x,.int .u32 y] 97)).drew.cell? ⟨w.heap.size,13,none⟩=some (.slice sa k sc):=blk_cell (blk_below HF.out b1) 13
       have HF1:=Lib.hid (blk_below HF.out b1)
       have HR1:=Lib.hid (blk_below HR.out b1)
       have row1:=own_below hrow b1
       have sz1:wr.heap.size<(wr.alloc (.cells #[.int .i64 x,.int .u32 y] 97)).drew.heap.size:=by simp
       have hB1:=Below.step' hbel b1
       clear hwx c13 f13 b1
       generalize (wr.alloc (.cells #[.int .i64 x,.int .u32 y] 97)).drew=w1 at *
       have hlt0:∀g,(Value.slice sa k sc).ownBlock=some g→g<wr.heap.size:=own_lt hrow
       have hnew:(Value.slice sa k sc).ownBlock≠some wr.heap.size:=fun e=>absurd (hlt0 _ e) (Nat.lt_irrefl _)
       have hx4:(x==4)=true∨(x==4)=false:=by cases (x==4)<;>simp
       have hwk:(wk:Int)+1≤16777217:=by omega
       have HL0:=Lib.hid hlt0
       clear hlt0
       rcases hx4 with hx4|hx4
       all_goals
         go_wp2_with (first
           | (at_builtin;refine wpList_app ESs rfl _ _ rfl (.slice sa k sc) k _ rfl (own_alloc row1 _) 1 _ (src_of_block Tryz.underlying27 (blk_new _ _) rfl (by simp [Value.oneCell'])) (by omega) (by unfold maxLen;omega) ?_;intro a2 c2 w2 own2 g2 t2;have HF2:=Lib.hid (blk_grown (blk_alloc HF1.out) g2 hne);have HR2:=Lib.hid (blk_grown (blk_alloc HR1.out) g2 hne2);have q0:w2.cell? ⟨wr.heap.size,0,none⟩=some (.int .i64 x):=cell_grown g2 (cell_alloc s0 _) hnew;have G2:=Lib.hid g2;have T2:=Lib.hid t2;clear g2 t2)
           | (refine wpList_store_cell rfl 27 _ _ rfl w.heap.size 13 rfl (.slice a2 (k+1) c2) rfl rfl infoSl2 _ 29 HF2.out (frX_lt (by decide)) ?_;intro w3 hF3 k3;rw [frX_set] at hF3;have HF3:=Lib.hid hF3;have r0:w3.cell? ⟨wr.heap.size,0,none⟩=some (.int .i64 x):=k3.cell (by have:=hsz;show wr.heap.size≠w.heap.size;omega) q0;have K3:=Lib.hid k3;clear hF3 k3))
         go_roundw
         case rel =>
           have g2:=G2.out
           have k3:=K3.out
           have hnF:(Value.slice a2 (k+1) c2).ownBlock≠some w.heap.size:=own_block own2 HF2.out (by decide)
           refine ⟨k+1,by omega,aC,cC,by rw [show n-6*(k+1)=m-6 by have:=HM.out;omega],by rw [show n-6*(k+1)=m-6 by have:=HM.out;omega];exact HC.out,?_,_,HF3.out,by rw [HP.out];exact own_kept own2 k3 (fun g hg e=>hnF (e▸hg)),hfr.app (by simp;omega) T2.out,k3.at (Nat.succ_ne_self _) HR2.out,?_,?_⟩
           · rw [HW.out]
             first
               | rw [if_pos (by simpa using hx4)];push_cast;rfl
               | rw [if_neg (by simpa using hx4)];rfl
           · have:=Below.app (hB1.alloc hB1.size _) (by have:=hB1.size;simp;omega) g2 hfr
             exact this.trans ((k3.mono fun j hj _=>Nat.ne_of_lt hj).below this.size)
           · have h1:=g2.size
             have h2:=k3.size
             simp at h1
             omega
         case measure=>simp;omega
   · obtain rfl:N=k:=by omega
     have hm0:n-6*N=0:=by have:=HN.out;omega
     rw [hm0] at hr' ⊢
     have hpl:=pairs_len' N b
     rw [List.take_of_length_le (by omega)] at hrow ⊢
     have hNb:N≤3000000:=by have:=HN.out;omega
     have hwl:=wins_le (pairs N b)
     have HR':=Lib.hid hr'
     clear hr' hk hlt hn hm0
     generalize pairs N b=ps at *
     have hrd:=rdP_of_row hrow
     rw [hpl] at hwl
     obtain rfl:=hpl
     obtain ⟨sa,sc,rfl,hsc,hsm⟩:=own_shape hrow
     have c13:wr.cell? ⟨w.heap.size,13,none⟩=some (.slice sa ps.length sc):=blk_cell hF 13
     have HF:=Lib.hid hF
     have HR:=Lib.hid hR
     have HROW:=Lib.hid hrow
     have HPS:=Lib.hid hrd
     have HFR:=Lib.hid hfr
     have hpm:ps.length≤9223372036854775807:=by omega
     have hwm:(Pl.wins ps:Int)≤3000000:=by omega
     clear hF hR hrow hrd hfr HN HRD HBS hwl
     obtain ⟨wo,hwo⟩:∃wo:World,wo=wr:=⟨_,rfl⟩
     subst hwo
     go_wp2_with fail
     go_loopw [69] (fun x wr => ∃j:Nat,j≤ps.length∧x = .int .i64 j∧(ps.take j).any Pl.big4=false∧Below wo.heap.size wo wr) (fun x _=>ps.length-(intOf x).toNat)
     case atStart=>exact ⟨0,Nat.zero_le _,rfl,rfl,Below.refl _ _⟩
     case round =>
       obtain ⟨j,hj,rfl,hno,hbl⟩:=hrel
       have sz:wo.heap.size≤wr.heap.size:=hbl.size
       by_cases hlt:j<ps.length
       · obtain ⟨_,_,e,-,-,q⟩:=HPS.out.below hbl
         cases e
         obtain ⟨g,o,rfl,u0,u1⟩:=q j _ (List.getElem?_eq_getElem hlt)
         have hany:(ps.take (j+1)).any Pl.big4=Pl.big4 ps[j]:=by rw [List.take_succ_eq_append_getElem hlt,List.any_append,hno];simp
         have hmem:Pl.big4 ps[j]=true→ps.any Pl.big4=true:=fun h=>List.any_eq_true.2 ⟨_,List.getElem_mem hlt,h⟩
         have hbig:Pl.big4 ps[j]=(ps[j].1==4&&decide (2147483647<ps[j].2)):=rfl
         rw [hbig] at hany hmem
         have HA:=Lib.hid hany
         have HMM:=Lib.hid hmem
         have HNO:=Lib.hid hno
         clear hany hmem hbig q hno
         generalize ps[j].1=x at *
         generalize ps[j].2=y at *
         by_cases hb4:x=4∧2147483647<y
         · obtain ⟨rfl,hy⟩:=hb4
           have hy':¬y≤2147483647:=by omega
           have hR2:=Lib.hid (blk_below HR.out hbl)
           have hset:setR ⟨4,fl,ln,0⟩ ps=if 1<Pl.wins ps then .bad (-1) 0 0 else .bad 4 3 0:=by
             unfold setR
             rw [if_pos (HMM.out (by simp [hy]))]
           rw [hset]
           clear hset
           by_cases hw:1<Pl.wins ps
           · rw [if_pos hw]
             have hw':(1:Int)<Pl.wins ps:=by omega
             go_wp2_with (first
               | (refine wpList_load_at rfl 97 _ rfl g _ rfl #[.int .i64 4,.int .u32 y] (two_at u0 u1 (by simp;omega)) Tryz.underlying97 infoSs2 ?_)
               | (refine wpList_store_blk rfl 31 _ _ rfl (w.heap.size+1) rfl (rsX (.bad (-1) 0 0) (.slice none 0 0) (.slice none 0 0)) _ rfl 31 (blk_alloc hR2.out) (rsX_size _ _ _) (infoRX' _ _ _) (rsX_one _ _ _ _ _ _ _) ?_;intro w2 hb2 k2))
             refine ret_blk rfl (w.heap.size+1) _ _ rfl hb2 Tryz.underlying31 (infoRX' _ _ _) rfl (SpEnd.nil ?_)
             exact sp_fin ((Below.step' hbel hbl).alloc (Below.step' hbel hbl).size _) k2
           · rw [if_neg hw]
             have hw':¬(1:Int)<Pl.wins ps:=by omega
             go_wp2_with (first
               | (refine wpList_load_at rfl 97 _ rfl g _ rfl #[.int .i64 4,.int .u32 y] (two_at u0 u1 (by simp;omega)) Tryz.underlying97 infoSs2 ?_)
               | (go_at_call 24;refine (connS_any 3 _).mono ?_;rintro e w1 ⟨rfl,b1⟩;have hR3:=Lib.hid (blk_below (blk_alloc hR2.out) b1))
               | (refine wpList_store_blk rfl 31 _ _ rfl (w.heap.size+1) rfl (rsX (.bad 4 3 0) (.slice none 0 0) (.slice none 0 0)) _ rfl 31 hR3.out (rsX_size _ _ _) (infoRX' _ _ _) (rsX_one _ _ _ _ _ _ _) ?_;intro w2 hb2 k2))
             refine ret_blk rfl (w.heap.size+1) _ _ rfl hb2 Tryz.underlying31 (infoRX' _ _ _) rfl (SpEnd.nil ?_)
             exact sp_fin (Below.step' ((Below.step' hbel hbl).alloc (Below.step' hbel hbl).size _) b1) k2
         · have hnb:(x==4&&decide (2147483647<y))=false:=by
             cases h:(x==4&&decide (2147483647<y)) with
             | false=>rfl
             | true=>simp at h;exact absurd h hb4
           have HNB:=Lib.hid hnb
           clear hnb
           rcases (show (x==4)=true∨(x==4)=false by cases (x==4)<;>simp) with hx|hx
           · have hy:y≤2147483647:=by
               have:x=4:=by simpa using hx
               omega
             have hx':(x != 4)=false:=by simpa using hx
             clear hb4
             go_wp2_with (refine wpList_load_at rfl 97 _ rfl g _ rfl #[.int .i64 x,.int .u32 y] (two_at u0 u1 (by simp;omega)) Tryz.underlying97 infoSs2 ?_)
             go_roundw
             case rel=>exact ⟨j+1,by omega,by go_num,by rw [HA.out,HNB.out],hbl.alloc hbl.size _⟩
             case measure=>simp [intOf];omega
           · have hx':(x != 4)=true:=by simpa using hx
             clear hb4
             go_wp2_with (refine wpList_load_at rfl 97 _ rfl g _ rfl #[.int .i64 x,.int .u32 y] (two_at u0 u1 (by simp;omega)) Tryz.underlying97 infoSs2 ?_)
             go_roundw
             case rel=>exact ⟨j+1,by omega,by go_num,by rw [HA.out,HNB.out],hbl.alloc hbl.size _⟩
             case measure=>simp [intOf];omega
       · obtain rfl:j=ps.length:=by omega
         have hset:setR ⟨4,fl,ln,0⟩ ps = .ok { Fr.of ⟨4,fl,ln,0⟩ with set:=ps }:=by
           rw [List.take_length] at hno
           unfold setR
           rw [if_neg (by rw [hno];simp)]
         have HSET:=Lib.hid hset
         have HF2:=Lib.hid (blk_below HF.out hbl)
         have HR2:=Lib.hid (blk_below HR.out hbl)
         have HP2:=Lib.hid (HPS.out.below hbl)
         clear hset hno
         go_wp2_with (first
           | (refine wpList_load_blk rfl 29 _ rfl w.heap.size rfl (frX (Fr.of ⟨4,fl,ln,0⟩) (.slice none 0 0) (.slice sa ps.length sc)) 29 HF2.out Tryz.underlying29 (infoFsX _ _ _) ?_)
           | (refine wpList_build_rs rfl _ rfl (frX (Fr.of ⟨4,fl,ln,0⟩) (.slice none 0 0) (.slice sa ps.length sc)) rfl (frX_size14 _ _ _) ?_)
           | (refine wpList_store_blk rfl 31 _ _ rfl (w.heap.size+1) rfl (rsC 0 0 0 (frX (Fr.of ⟨4,fl,ln,0⟩) (.slice none 0 0) (.slice sa ps.length sc))) rsZ rfl 31 HR2.out (rsC_size _ _ _ _ _ _) (infoRsC _ _ _ _ _ _) (rsC_one _ _ _ _ _ _ _ _ _ _) ?_;intro w3 hb3 k3))
         have hne2:(Value.slice sa ps.length sc).ownBlock≠some (w.heap.size+1):=own_block HROW.out HR.out (by decide)
         have key:SpEnd w0 w (.ok { Fr.of ⟨4,fl,ln,0⟩ with set:=ps }) (.returned (.agg (rsC 0 0 0 (frX (Fr.of ⟨4,fl,ln,0⟩) (.slice none 0 0) (.slice sa ps.length sc))))) w3:=
           SpEnd.sets (sp_fin (Below.step' hbel hbl) k3) (HP2.out.kept k3 (inK_own (own_below HROW.out hbl) fun g hg e=>hne2 (e▸hg))) (inK_own HROW.out fun g hg=>HFR.out g hg)
         have key2:SpEnd w0 w (setR ⟨4,fl,ln,0⟩ ps) (.returned (.agg (rsC 0 0 0 (frX (Fr.of ⟨4,fl,ln,0⟩) (.slice none 0 0) (.slice sa ps.length sc))))) w3:=by rw [HSET.out];exact key
         exact ret_blk rfl (w.heap.size+1) _ _ rfl hb3 Tryz.underlying31 (infoRsC _ _ _ _ _ _) rfl key2
theorem settings_any {w0 w:World} (fl ln st:Int) {a:Option Addr} {n c:Nat} {b:List Int} (hf0:0≤fl) (hf1:fl<256) (hr:RdB w0 (.slice a n c) b) (hB:Below w0.heap.size w0 w) (hb:Bs b) (hn:n≤16777216) :
   Calls Tryz.prog 39 #[.agg (frX (Fr.of ⟨4,fl,ln,st⟩) (.slice none 0 0) (.slice none 0 0)),.slice a n c] w (SpEnd w0 w (Pl.sSettings ⟨4,fl,ln,st⟩ b)):=by
 obtain ⟨hnb,-,-⟩:=hr.len
 by_cases hs:st=0
 · subst hs
   cases h1:bitOf fl 1 with
   | true =>
     by_cases h0:0<n
     · exact set_bad5 fl ln hf0 hf1 hr hB hb h1 h0
     · have h00:n=0:=by omega
       subst h00
       have hbn:b = []:=List.eq_nil_of_length_eq_zero (by omega)
       subst hbn
       rw [sSet_good rfl (by simp [Pl.sAck,Pl.sMod])]
       exact set_good0 fl ln c hf0 hf1 h1
   | false =>
     by_cases hm:n%6=0
     · rw [sSet_good rfl (by simp only [Pl.sAck,Pl.sMod,h1,Bool.false_and,Bool.false_or];exact decide_eq_false (by omega))]
       exact set_good fl ln hf0 hf1 hr hB hb (b.length / 6) (by omega) hn h1
     · exact set_bad6 fl ln hf0 hf1 hr hB hb h1 hm
 · cases h1:bitOf fl 1 with
   | true =>
     by_cases h0:0<n
     · exact set_bad1 fl st ln hf0 hf1 hr hB hb hs h1 h0
     · exact set_bad4 fl st ln hf0 hf1 hr hB hb hs h1 (by omega)
   | false =>
     by_cases hm:n%6=0
     · exact set_bad3 fl st ln hf0 hf1 hr hB hb hs h1 hm
     · exact set_bad2 fl st ln hf0 hf1 hr hB hb hs h1 hm
end Go.Proofs.YtfdlbjibninakaaGreatDoor

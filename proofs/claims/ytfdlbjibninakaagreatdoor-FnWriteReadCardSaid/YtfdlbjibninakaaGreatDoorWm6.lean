/- The Write methods at legal frames: PUSH_PROMISE. -/
import Derived.Test.YtfdlbjibninakaaGreatDoorWm4
import Derived.Laws.StructEq
import Derived.Deep.RegionHeld3
import Derived.Deep.CutRange
set_option linter.unusedVariables false
set_option linter.unusedSimpArgs false
namespace Go.Proofs.YtfdlbjibninakaaGreatDoor
set_option maxRecDepth 100000
set_option maxHeartbeats 8000000
open Go.RowKit
theorem infoPq:(Tryz.prog.info? 133).map (·.size)=some 5:=by kernel_rfl
theorem fieldsPq:Tryz.prog.underlying 133=some (.struct (Tryz.prog.fieldsOf 133)):=by kernel_rfl
theorem stoodPq:Tryz.prog.stoodInHeld 133=false:=by kernel_rfl
theorem isz_run (dep:Int) (ex:Bool) (wt:Int):∃b:Bool,(b=true↔dep=0∧ex=false∧wt=0) ∧ ∀w,(binOp .eql 133 (.agg #[.int .u32 dep,.bool ex,.int .u8 wt,.int .u8 0,.int .u8 0]) (.agg #[.int .u32 0,.bool false,.int .u8 0,.int .u8 0,.int .u8 0])).run Tryz.prog w = .ok (.bool b) w:=by
 have hu8:Tryz.prog.underlying 5=some (.int .u8):=Tryz.underlying5
 have hu32:Tryz.prog.underlying 26=some (.int .u32):=Tryz.underlying26
 have hub:Tryz.prog.underlying 4=some .bool:=by kernel_rfl
 refine ⟨dep==0&&(!ex&&wt==0),by cases ex<;>simp,fun w => ?_⟩
 rw [run_eql_struct,show (10000:Nat)=9999+1 from rfl,run_equalIn_struct w 9999 133 _ _ fieldsPq stoodPq]
 unfold Program.fieldsOf
 rw [Tryz.underlying133]
 cases h1:dep==0<;>cases h2:wt==0<;>cases ex<;>simp [Op.eqFields,part,run_equalIn_int w 9998 _ _ .u8 _ _ hu8,run_equalIn_int w 9998 _ _ .u32 _ _ hu32,run_equalIn_bool w 9998 _ _ _ hub,h1,h2]
theorem isZero_any (dep:Int) (ex:Bool) (wt:Int) (b:Bool) (hb:b=true↔dep=0∧ex=false∧wt=0) (w:World) :
   Calls Tryz.prog 98 #[.agg #[.int .u32 dep,.bool ex,.int .u8 wt,.int .u8 0,.int .u8 0]] w fun e w'=>e = .returned (.bool b)∧w.alloc (.cells #[.int .u32 dep,.bool ex,.int .u8 wt,.int .u8 0,.int .u8 0] 133)=w':=by
 obtain ⟨q,hq,hr⟩:=isz_run dep ex wt
 have e:q=b:=by rw [Bool.eq_iff_iff,hq,hb]
 have E:=Lib.hid e
 clear hq hb e
 go_enter Tryz.func98,Tryz.ntmps98
 go_wp2_with (refine wpList_load_blk rfl 133 _ rfl w.heap.size rfl _ 133 (blk_new w _) Tryz.underlying133 infoPq ?_)
 rw [E.out]
 go_ret
 exact ⟨rfl,rfl⟩
theorem padZeros_any (w:World):Calls Tryz.prog 103 #[] w fun e w'=>e = .returned (.slice (some ⟨w.heap.size,0,none⟩) 255 255)∧w.alloc (.cells (zB 255) 5)=w':=by
 have hmk:∀w,(Instr.makeSlice 22 (.int .i64 255) (.int .i64 255)).run Tryz.prog w = .ok (.slice (some ⟨w.heap.size,0,none⟩) 255 255) (w.alloc (.cells (zB 255) 5)):=mk5 255 (by omega)
 go_enter Tryz.func103,Tryz.ntmps103
 go_wp2
 go_ret
 exact ⟨rfl,rfl⟩
theorem rd_zB {w:World} {b n:Nat} (h:w.heap[b]? = some (.cells (zB 255) 5 (0,0))) (hn:n≤255):RdB w (.slice (some ⟨b,0,none⟩) n 255) (List.replicate n 0):=by
 refine ⟨_,255,by rw [List.length_replicate],by rw [List.length_replicate];exact hn,by unfold maxLen;omega,fun j x hj=>⟨b,0,rfl,?_⟩⟩
 have hj0:j<n:=by
   have:=(List.getElem?_eq_some_iff.1 hj).1
   simpa using this
 have hx:x=0:=by
   rw [List.getElem?_replicate,if_pos hj0] at hj
   exact (Option.some.inj hj).symm
 rw [Nat.zero_add,cell_of_row _ _ _ _ _ _ h,hx,←Array.getElem?_toList,zB_list]
 unfold bv
 rw [List.getElem?_map,List.getElem?_replicate,if_pos (by omega)]
 rfl
theorem sub_at {w:World} {b off:Nat} {cells cs:Array Value} {t:TypeId} (h:w.heap[b]? = some (.cells cells t (0,0))) (e:∀j v,cs[j]? = some v→cells[off+j]? = some v):∀j v,cs[j]? = some v→w.cell? ⟨b,off+j,none⟩=some v:=
 fun j v hj=>(blk_cell h (off+j)).trans (e j v hj)
def hFl (n:Nat) (ends whole hp:Bool):Int:=(if n=0 then 0 else 8)+(if ends then 1 else 0)+(if whole then 4 else 0)+(if hp then 32 else 0)
def hPay (n:Nat) (hp:Bool) (dep:Int) (ex:Bool) (wt:Int) (d:List Int):List Int:=(if n=0 then [] else [(n:Int)])++((if hp then be32 (depN dep ex) ++ [wt] else [])++(d++List.replicate n 0))
variable {K : Nat → Prop} {w : World} {bF cl bW : Nat} {cur out : List Int} {wb al : Value}
theorem wHeaders (h:WS K w bF cl bW cur out wb al) (s:Int) (h0:0<s) (h1:s≤2147483647) (ends whole:Bool) (n:Nat) (hn:n≤255) (dep wt:Int) (ex hp:Bool) (d0:0≤dep) (d1:dep≤2147483647) (hz:hp=false↔dep=0∧ex=false∧wt=0) (ho:out.length≤50000000) {dv:Value} {d:List Int} (hd:RdB w dv d) (hK:inK K dv) (hdl:d.length≤100000) :
   Calls Tryz.prog 67 #[.pointer (some ⟨bF,0,none⟩),.agg #[.int .u32 s,dv,.bool ends,.bool whole,.int .u8 n,.int .u32 dep,.bool ex,.int .u8 wt,.int .u8 0,.int .u8 0]] w (Sent K w bF cl bW (out++frB 1 (hFl n ends whole hp) s (hPay n hp dep ex wt d))):=by
 have hv:=vs_yes h0 h1
 obtain ⟨da,dc,rfl,-,-⟩:=id hd
 obtain ⟨f1,e1⟩:∃f:Int,(if n=0 then 0 else 8)=f:=⟨_,rfl⟩
 obtain ⟨f2,e2⟩:∃f:Int,f1+(if ends then 1 else 0)=f:=⟨_,rfl⟩
 obtain ⟨f3,e3⟩:∃f:Int,f2+(if whole then 4 else 0)=f:=⟨_,rfl⟩
 obtain ⟨f4,e4⟩:∃f:Int,f3+(if hp then 32 else 0)=f:=⟨_,rfl⟩
 have e5:hFl n ends whole hp=f4:=by unfold hFl;rw [e1,e2,e3,e4]
 have r1:f1=0∨f1=8:=by rw [←e1];split<;>simp
 have r2:f2=f1∨f2=f1+1:=by rw [←e2];cases ends<;>simp
 have o1:bits .or .u8 0 8=8:=by decide
 have o2:bits .or .u8 f1 1=f1+1:=by rcases r1 with rfl|rfl<;>decide
 have o3:bits .or .u8 f2 4=f2+4:=by rcases r1 with rfl|rfl<;>rcases r2 with rfl|rfl<;>decide
 have r3:f3=f2∨f3=f2+4:=by rw [←e3];cases whole<;>simp
 have o4:bits .or .u8 f3 32=f3+32:=by rcases r1 with rfl|rfl<;>rcases r2 with rfl|rfl<;>rcases r3 with rfl|rfl<;>decide
 have hor:=u32_or_top d0 d1
 have hiz:(!hp)=true↔dep=0∧ex=false∧wt=0:=by rw [←hz];cases hp<;>simp
 have IZ:=Lib.hid fun w=>isZero_any dep ex wt (!hp) hiz w
 obtain ⟨bP,hbP⟩:∃b,w.heap.size=b:=⟨_,rfl⟩
 have hb:=h.box (.cells #[.int .u32 s,.slice da d.length dc,.bool ends,.bool whole,.int .u8 n,.int .u32 dep,.bool ex,.int .u8 wt,.int .u8 0,.int .u8 0] 172)
 have hB:(w.alloc (.cells #[.int .u32 s,.slice da d.length dc,.bool ends,.bool whole,.int .u8 n,.int .u32 dep,.bool ex,.int .u8 wt,.int .u8 0,.int .u8 0] 172)).heap[w.heap.size]? = some (.cells #[.int .u32 s,.slice da d.length dc,.bool ends,.bool whole,.int .u8 n,.int .u32 dep,.bool ex,.int .u8 wt,.int .u8 0,.int .u8 0] 172 (0,0)):=blk_new w _
 rw [hbP] at hB hb
 have HB:=Lib.hid hB
 have HW:=Lib.hid hb
 have E1:=Lib.hid e1
 have E2:=Lib.hid e2
 have E3:=Lib.hid e3
 have E4:=Lib.hid e4
 have HD:=Lib.hid (hd.kept ((Kept.refl K w).alloc (.cells #[.int .u32 s,.slice da d.length dc,.bool ends,.bool whole,.int .u8 n,.int .u32 dep,.bool ex,.int .u8 wt,.int .u8 0,.int .u8 0] 172)) hK)
 have KW:=Lib.hid ((Kept.refl K w).alloc (.cells #[.int .u32 s,.slice da d.length dc,.bool ends,.bool whole,.int .u8 n,.int .u32 dep,.bool ex,.int .u8 wt,.int .u8 0,.int .u8 0] 172))
 have HZ:=Lib.hid hz
 rw [e5]
 clear hB hb e1 e2 e3 e4 e5 r1 r2 r3 hd h hz hiz
 go_enter Tryz.func67,Tryz.ntmps67
 go_upto_if 21 with (go_at_call 97;refine (validStreamID_any s _ (by omega) (by omega)).mono ?_;rw [hv];rintro e w' ⟨rfl,rfl⟩)
 go_cut [5] from 7 (fun v wc=>v = .int .u8 f1∧w.alloc (.cells #[.int .u32 s,.slice da d.length dc,.bool ends,.bool whole,.int .u8 n,.int .u32 dep,.bool ex,.int .u8 wt,.int .u8 0,.int .u8 0] 172)=wc)
 case first =>
   rcases Nat.eq_zero_or_pos n with hn0|hn0
   · have hc:((n:Int) != 0)=false:=by simp [hn0]
     have HN:=Lib.hid hn0
     clear hn0
     go_wp2
     go_meet
     case rel=>exact ⟨by rw [←E1.out,if_pos HN.out],rfl⟩
   · have hc:((n:Int) != 0)=true:=by simp;omega
     go_wp2
     go_meet
     case rel=>exact ⟨by rw [←E1.out,if_neg (by omega)],rfl⟩
 case rest =>
   obtain ⟨rfl,rfl⟩:=hcut
   go_upto_if 25 with fail
   go_cut [5] from 7 (fun v wc=>v = .int .u8 f2∧w.alloc (.cells #[.int .u32 s,.slice da d.length dc,.bool ends,.bool whole,.int .u8 n,.int .u32 dep,.bool ex,.int .u8 wt,.int .u8 0,.int .u8 0] 172)=wc)
   case first =>
     cases ends
     all_goals
       go_wp2
       go_meet
       exact ⟨by rw [←E2.out];simp,rfl⟩
   case rest =>
     obtain ⟨rfl,rfl⟩:=hcut
     go_upto_if 29 with fail
     go_cut [5] from 7 (fun v wc=>v = .int .u8 f3∧w.alloc (.cells #[.int .u32 s,.slice da d.length dc,.bool ends,.bool whole,.int .u8 n,.int .u32 dep,.bool ex,.int .u8 wt,.int .u8 0,.int .u8 0] 172)=wc)
     case first =>
       cases whole
       all_goals
         go_wp2
         go_meet
         exact ⟨by rw [←E3.out];simp,rfl⟩
     case rest =>
       obtain ⟨rfl,rfl⟩:=hcut
       go_upto_if 35 with (go_at_call 98;refine (IZ.out _).mono ?_;rintro e w' ⟨rfl,rfl⟩)
       go_cut [5] from 7 (fun v wc=>v = .int .u8 f4∧(w.alloc (.cells #[.int .u32 s,.slice da d.length dc,.bool ends,.bool whole,.int .u8 n,.int .u32 dep,.bool ex,.int .u8 wt,.int .u8 0,.int .u8 0] 172)).alloc (.cells #[.int .u32 dep,.bool ex,.int .u8 wt,.int .u8 0,.int .u8 0] 133)=wc)
       case first =>
         cases hp
         all_goals
           go_wp2
           go_meet
           exact ⟨by rw [←E4.out];simp,rfl⟩
       case rest =>
         obtain ⟨rfl,rfl⟩:=hcut
         obtain ⟨C,hC,hCl,hsw⟩:=startWrite_let (HW.out.alloc (.cells #[.int .u32 dep,.bool ex,.int .u8 wt,.int .u8 0,.int .u8 0] 133)) 1 f4 s (by omega) (by omega)
         have SW:=Lib.hid (hsw _ _ _ (HW.out.alloc (.cells #[.int .u32 dep,.bool ex,.int .u8 wt,.int .u8 0,.int .u8 0] 133)))
         have HC:=Lib.hid hC
         have HCL:=Lib.hid hCl
         clear hC hCl hsw
         obtain ⟨c1,g1⟩:∃c:List Int,(if n=0 then [] else [(n:Int)])=c:=⟨_,rfl⟩
         obtain ⟨c2,g2⟩:∃c:List Int,(if hp then be32 (depN dep ex) ++ [wt] else [])=c:=⟨_,rfl⟩
         have l1:c1.length≤1:=by rw [←g1];split<;>simp
         have l2:c2.length≤5:=by rw [←g2];cases hp<;>simp [be32]
         have G1:=Lib.hid g1
         have G2:=Lib.hid g2
         clear g1 g2
         go_upto_if 45 with (go_at_call 99;refine SW.out.mono ?_;rintro e w2 ⟨rfl,k2,wb2,al2,h2⟩;have B2:=k2.at (.inr rfl) (blk_alloc HB.out);have p4:=blk_cell B2 4)
         have KW2:=Lib.hid (k2.mono fun k h _=>h)
         go_cut [5] from 7 (fun _ wc=>Kept (fun k=>K k∨k=bP) w2 wc ∧ ∃wb al,WS (fun k=>K k∨k=bP) wc bF cl bW (C++c1) out wb al)
         case first =>
           rcases Nat.eq_zero_or_pos n with hn0|hn0
           · have hc:((n:Int) != 0)=false:=by simp [hn0]
             have HN:=Lib.hid hn0
             clear hn0
             go_wp2
             go_meet
             case rel=>exact ⟨Kept.refl _ _,_,_,by rw [←G1.out,if_pos HN.out,List.append_nil];exact h2⟩
           · have hc:((n:Int) != 0)=true:=by simp;omega
             go_wp2_with (go_at_call 100;refine (writeByte_any h2 n (by have:=HCL.out;omega)).mono ?_;rintro e w3 ⟨rfl,k3,wb3,al3,h3⟩)
             go_meet
             case rel=>exact ⟨k3,_,_,by rw [←G1.out,if_neg (by omega)];exact h3⟩
         case rest =>
           obtain ⟨k3,wb3,al3,h3⟩:=hcut
           have B3:=k3.at (.inr rfl) B2
           have HB30:=Lib.hid B3
           have HS3:=Lib.hid (sub_at (off:=5) (cs:=#[.int .u32 dep,.bool ex,.int .u8 wt,.int .u8 0,.int .u8 0]) B3 (by intro j v hj;rcases j with _|_|_|_|_|j<;>first|exact hj|exact absurd hj (by simp)))
           have B3b:=blk_alloc (p:=.cells #[.int .u32 dep,.bool ex,.int .u8 wt,.int .u8 0,.int .u8 0] 133) B3
           have q5:=blk_cell B3b 5
           have q6:=blk_cell B3b 6
           have q7:=blk_cell B3b 7
           have H3:=Lib.hid (h3.alloc (.cells #[.int .u32 dep,.bool ex,.int .u8 wt,.int .u8 0,.int .u8 0] 133))
           have HB3:=Lib.hid B3b
           have HK3:=Lib.hid k3
           clear B3 B3b k3 h3 p4 B2 h2 k2
           go_upto_if 53 with (first
             | (refine wpList_load_at rfl 133 _ rfl bP 5 rfl #[.int .u32 dep,.bool ex,.int .u8 wt,.int .u8 0,.int .u8 0] HS3.out Tryz.underlying133 infoPq ?_)
             | (go_at_call 98;refine (IZ.out _).mono ?_;rintro e w' ⟨rfl,rfl⟩))
           go_cut [5] from 7 (fun _ wx=>Kept (fun k=>K k∨k=bP) wc wx ∧ ∃wb al,WS (fun k=>K k∨k=bP) wx bF cl bW (C++c1++c2) out wb al)
           case first =>
             have hl3:(C++c1).length≤10:=by have:=HCL.out;rw [List.length_append];omega
             obtain ⟨D,hD⟩:∃D,C++c1=D:=⟨_,rfl⟩
             rw [hD] at H3 hl3
             have HDD:=Lib.hid hD
             clear hD
             cases hp
             · go_wp2
               go_meet
               case rel=>exact ⟨(Kept.refl _ _).alloc _,_,_,by rw [←G2.out,HDD.out];simpa using H3.out⟩
             · cases ex
               all_goals
                 go_wp2_with (first
                   | (go_at_call 101;refine (validOrZero_any dep _ d0 d1).mono ?_;rintro e w' ⟨rfl,rfl⟩)
                   | (go_at_call 102;refine (writeUint32_any H3.out _ (by omega) (by omega) (by omega)).mono ?_;rintro e w4 ⟨rfl,k4,wb4,al4,h4⟩;have q7:=blk_cell (k4.at (.inr rfl) HB3.out) 7)
                   | (go_at_call 100;refine (writeByte_any h4 wt (by rw [List.length_append];simp [be32];omega)).mono ?_;rintro e w5 ⟨rfl,k5,wb5,al5,h5⟩))
                 go_meet
                 case rel=>exact ⟨((Kept.refl _ _).alloc _).trans (k4.trans k5),_,_,by rw [←G2.out,HDD.out];simpa [depN] using h5⟩
           case rest =>
             obtain ⟨k4,wb4,al4,h4⟩:=hcut
             have B4:=k4.at (.inr rfl) HB30.out
             obtain ⟨D,hD⟩:∃D,C++c1++c2=D:=⟨_,rfl⟩
             have hDl:D.length≤15∧9≤D.length:=by have:=HCL.out;rw [←hD,List.length_append,List.length_append];omega
             obtain ⟨hDl1,hDl2⟩:=hDl
             rw [hD] at h4
             have HDD:=Lib.hid hD
             have KT:=Lib.hid (((Kept.refl _ _).alloc _).trans (KW2.out.trans (HK3.out.trans k4)):Kept (fun k=>K k∨k=bP) (w.alloc (.cells #[.int .u32 s,.slice da d.length dc,.bool ends,.bool whole,.int .u8 n,.int .u32 dep,.bool ex,.int .u8 wt,.int .u8 0,.int .u8 0] 172)) _)
             have hd4:=HD.out.kept (KT.out.mono fun k h _ => .inl h) hK
             have p1:wc.cell? ⟨bP,1,none⟩=some (.slice da d.length dc):=blk_cell B4 1
             have p4:wc.cell? ⟨bP,4,none⟩=some (.int .u8 n):=blk_cell B4 4
             obtain ⟨a4,z4,rfl,hz4,hzm⟩:=own_shape h4.own
             have e20:wc.cell? ⟨bF,20,none⟩=some (.slice a4 D.length z4):=blk_cell h4.F 20
             have f20:=blk_free h4.F 20
             have hne:¬bF=bP:=fun e=>HW.out.kF (.inr e)
             have hne':¬bP=bF:=fun e=>hne e.symm
             have NE:=Lib.hid (own_block h4.own B4 (by decide))
             have H4:=Lib.hid h4.drew
             have HD4:=Lib.hid (hd4.kept ((Kept.refl K wc).drew) hK)
             have HB4:=Lib.hid (show wc.drew.heap[bP]? = some _ from B4)
             clear h4 hd4 B4 hD k4
             go_wp2
             refine wp_region_held_drew (S:=fun w'=>w'.cell? ⟨bP,1,none⟩=some (.slice da d.length dc)) (by kernel_rfl) (show wc.drew.cell? ⟨bP,1,none⟩=_ from p1) (fun hHeld => ?_)
             refine tkSr 0 (.pointer (some ⟨bF,0,none⟩)) ?_;try simp only [Act.put,sxA,sxB,sxC]
             refine tkSr 1 (.pointer (some ⟨bF,0,none⟩)) ?_;try simp only [Act.put,sxA,sxB,sxC]
             refine tkSr 2 (.pointer (some ⟨bF,0,none⟩)) ?_;try simp only [Act.put,sxA,sxB,sxC]
             refine tkSr 3 (.pointer (some ⟨bF,20,none⟩)) ?_;try simp only [Act.put,sxA,sxB,sxC]
             refine tkSr 5 (.pointer (some ⟨bP,1,none⟩)) ?_;try simp only [Act.put,sxA,sxB,sxC]
             refine tkLr 6 (.slice da d.length dc) ?_ ?_
             · intro w' hSw;go_simp
             try simp only [Act.put,sxA,sxB,sxC]
             refine wpAnyH_ready (rs:=[4]) (by kernel_rfl) (by simp) ?_
             refine AllReadyH.cons rfl (fun K' hK => ?_) AllReadyH.nil
             go_simp
             refine hK.out _ _ hHeld (fun hHeld1 => ?_)
             clear hK K'
             try simp only [Act.put,sxA,sxB,sxC]
             refine wpAnyH_ready (rs:=[7]) (by kernel_rfl) (by simp) ?_
             refine AllReadyH.cons rfl (fun K' hK => ?_) AllReadyH.nil
             refine step_app E5 rfl _ _ rfl (.slice a4 D.length z4) D.length (bv D) rfl H4.out.own d.length (bv d) (src_of_rd HD4.out) (by omega) (by unfold maxLen;omega) ?_
             intro a5 z5 w5 own5 g5 t5
             have B5:=Lib.hid (blk_grown HB4.out g5 NE.out)
             have q1:w5.cell? ⟨bP,1,none⟩=some (.slice da d.length dc):=blk_cell B5.out 1
             have F5:=blk_grown H4.out.F g5 H4.out.neF
             have q5:w5.cell? ⟨bF,20,none⟩=some (.slice a4 D.length z4):=blk_cell F5 20
             have y5:=blk_free F5 20
             clear F5
             have P5:=Lib.hid (H4.out.put (cur':=D++d) g5 (by rw [List.length_append,bv_append];exact own5) t5)
             clear own5 g5 t5
             refine hK.out _ _ q1 (fun hHeld2 => ?_)
             clear hK K' hHeld hHeld1
             try simp only [Act.put,sxA,sxB,sxC]
             refine tkSr 8 (.pointer (some ⟨bF,0,none⟩)) ?_;try simp only [Act.put,sxA,sxB,sxC]
             refine tkSr 9 (.pointer (some ⟨bF,20,none⟩)) ?_;try simp only [Act.put,sxA,sxB,sxC]
             refine wpAnyH_ready (rs:=[10]) (by kernel_rfl) (by simp) ?_
             refine AllReadyH.cons rfl (fun K' hK => ?_) AllReadyH.nil
             go_simp
             refine hK.out _ _ (blk_cell (blk_set_other B5.out hne' _) 1) (fun hHeld3 => ?_)
             clear hK K' hHeld2 hHeld3
             try simp only [Act.put,sxA,sxB,sxC]
             refine wpAnyH_done (by kernel_rfl) ?_ _
             obtain ⟨w6,hw6⟩:∃w6,w5.setCell ⟨bF,20,none⟩ (.slice a5 (D.length+d.length) z5)=w6:=⟨_,rfl⟩
             have P6:=P5.out
             have B6:(w5.setCell ⟨bF,20,none⟩ (.slice a5 (D.length+d.length) z5)).heap[bP]? = some (.cells #[.int .u32 s,.slice da d.length dc,.bool ends,.bool whole,.int .u8 n,.int .u32 dep,.bool ex,.int .u8 wt,.int .u8 0,.int .u8 0] 172 (0,0)):=blk_set_other B5.out hne' _
             rw [hw6] at P6 B6 ⊢
             clear hw6 P5 B5 q1 q5 y5 p1 p4 e20 f20
             have p4:w6.cell? ⟨bP,4,none⟩=some (.int .u8 n):=blk_cell B6 4
             have e20:w6.cell? ⟨bF,20,none⟩=some (.slice a5 (D.length+d.length) z5):=blk_cell P6.1.F 20
             have f20:=blk_free P6.1.F 20
             obtain ⟨E,hE⟩:∃E,D++d=E:=⟨_,rfl⟩
             have hEl:E.length=D.length+d.length:=by rw [←hE,List.length_append]
             rw [hE] at P6
             have HEE:=Lib.hid hE
             have HEL:=Lib.hid hEl
             have PK:=Lib.hid P6.2
             have H6:=Lib.hid ((P6.1.drew).alloc (.cells (zB 255) 5))
             have N6:=Lib.hid (own_block P6.1.own B6 (by decide))
             have HB6:=Lib.hid (blk_alloc (w:=w6.drew) (p:=.cells (zB 255) 5) B6)
             have Z6:=Lib.hid (rd_zB (blk_new w6.drew (.cells (zB 255) 5)) hn)
             have hbb:(D.length+d.length+n)*1≤140737488355328:=by omega
             have h63:D.length+d.length+n≤maxLen:=by unfold maxLen;omega
             have hn2:(n:Int)≤255:=by omega
             have e20a:(w6.alloc (.cells (zB 255) 5)).cell? ⟨bF,20,none⟩=some (.slice a5 (D.length+d.length) z5):=cell_alloc e20 _
             have n1:¬w6.heap.size=bF:=World.new_ne w6 _ e20
             have n2:¬w6.heap.size=bP:=World.new_ne w6 _ p4
             have n3:¬bF=w6.heap.size:=fun e=>n1 e.symm
             have n4:¬bP=w6.heap.size:=fun e=>n2 e.symm
             clear P6 B6 hE hEl
             go_wp2
             refine wp_region_held_drew (S:=fun w'=>w'.cell? ⟨bP,4,none⟩=some (.int .u8 n)) (by kernel_rfl) (show w6.drew.cell? ⟨bP,4,none⟩=_ from p4) (fun hHeld => ?_)
             refine tkSr 0 (.pointer (some ⟨bF,0,none⟩)) ?_;try simp only [Act.put,sxA,sxB,sxC]
             refine tkSr 1 (.pointer (some ⟨bF,0,none⟩)) ?_;try simp only [Act.put,sxA,sxB,sxC]
             refine tkSr 2 (.pointer (some ⟨bF,0,none⟩)) ?_;try simp only [Act.put,sxA,sxB,sxC]
             refine tkSr 3 (.pointer (some ⟨bF,20,none⟩)) ?_;try simp only [Act.put,sxA,sxB,sxC]
             refine tkSr 6 (.pointer (some ⟨bP,4,none⟩)) ?_;try simp only [Act.put,sxA,sxB,sxC]
             refine tkLr 7 (.int .u8 n) ?_ ?_
             · intro w' hSw;go_simp
             try simp only [Act.put,sxA,sxB,sxC]
             refine wpAnyH_ready (rs:=[4,5]) (by kernel_rfl) (by simp) ?_
             refine AllReadyH.cons rfl (fun K' hK => ?_) (AllReadyH.cons rfl (fun K' hK => ?_) AllReadyH.nil)
             · go_simp
               refine hK.out _ _ hHeld (fun hHeld1 => ?_)
               clear hK K'
               try simp only [Act.put,sxA,sxB,sxC]
               refine wpAnyH_ready (rs:=[5]) (by kernel_rfl) (by simp) ?_
               refine AllReadyH.cons rfl (fun K' hK => ?_) AllReadyH.nil
               go_simp
               refine (padZeros_any _).mono ?_
               rintro e w' ⟨rfl,rfl⟩
               go_wp2_with fail
               refine hK.out _ _ (blk_cell HB6.out 4) (fun hHeld2 => ?_)
               clear hK K' hHeld1
               try simp only [Act.put,sxA,sxB,sxC]
               refine tkSr 8 (.slice (some ⟨w6.heap.size,0,none⟩) n 255) ?_;try simp only [Act.put,sxA,sxB,sxC]
               refine wpAnyH_ready (rs:=[9]) (by kernel_rfl) (by simp) ?_
               refine AllReadyH.cons rfl (fun K' hK => ?_) AllReadyH.nil
               refine step_app E5 rfl _ _ rfl (.slice a5 (D.length+d.length) z5) (D.length+d.length) (bv E) rfl (by have h:=H6.out.own;rw [HEL.out] at h;exact h) n (bv (List.replicate n 0)) (by have h:=src_of_rd Z6.out;rw [List.length_replicate] at h;exact h) hbb h63 ?_
               intro a7 z7 w7 own7 g7 t7
               have B7:=Lib.hid (blk_grown HB6.out g7 N6.out)
               have F7:=blk_grown H6.out.F g7 H6.out.neF
               have q8:w7.cell? ⟨bF,20,none⟩=some (.slice a5 (D.length+d.length) z5):=blk_cell F7 20
               have y7:=blk_free F7 20
               clear F7
               have P7:=Lib.hid (H6.out.put (cur':=E++List.replicate n 0) g7 (by rw [List.length_append,HEL.out,List.length_replicate,bv_append];exact own7) t7)
               clear own7 g7 t7
               refine hK.out _ _ (blk_cell B7.out 4) (fun hHeld3 => ?_)
               clear hK K'
               try simp only [Act.put,sxA,sxB,sxC]
               refine tkSr 10 (.pointer (some ⟨bF,0,none⟩)) ?_;try simp only [Act.put,sxA,sxB,sxC]
               refine tkSr 11 (.pointer (some ⟨bF,20,none⟩)) ?_;try simp only [Act.put,sxA,sxB,sxC]
               refine wpAnyH_ready (rs:=[12]) (by kernel_rfl) (by simp) ?_
               refine AllReadyH.cons rfl (fun K' hK => ?_) AllReadyH.nil
               go_simp
               refine hK.out _ _ (blk_cell (blk_set_other B7.out hne' _) 4) (fun hHeld4 => ?_)
               clear hK K'
               try simp only [Act.put,sxA,sxB,sxC]
               refine wpAnyH_done (by kernel_rfl) ?_ _
               obtain ⟨w8,hw8⟩:∃w8,w7.setCell ⟨bF,20,none⟩ (.slice a7 (D.length+d.length+n) z7)=w8:=⟨_,rfl⟩
               have P8:=P7.out
               rw [hw8] at P8 ⊢
               have hol:(E++List.replicate n 0).length≤200000∧9≤(E++List.replicate n 0).length:=by have:=HEL.out;rw [List.length_append,List.length_replicate];omega
               have HOL:=Lib.hid hol
               have P9:=Lib.hid P8
               clear hw8 P7 B7 q8 y7 p4 e20 e20a f20 P8 hol hHeld4
               go_wp2_with (go_at_call 96;refine (endWrite_any P9.out.1 HOL.out.2 (by have:=HOL.out.1;omega) (by omega)).mono ?_;rintro e w9 ⟨rfl,k9,wb9,al9,h9⟩)
               go_ret
               refine Sent.fin 1 f4 s _ (KW.out.trans ((KT.out.trans (((Kept.refl _ _).drew.trans PK.out).trans ((((Kept.refl _ _).drew).alloc _).trans (P9.out.2.trans k9)))).mono fun k h _ => .inl h)) (h9.narrow fun k h => .inl h) ?_ ?_
               · rw [←HEE.out,←HDD.out,←HC.out,←G1.out,←G2.out]
                 unfold hPay
                 simp only [List.append_assoc]
               · have h1:=HOL.out.1
                 have h2:=congrArg List.length HEE.out
                 have h3:=congrArg List.length HDD.out
                 have h4:=congrArg List.length HC.out
                 have h5:=HEL.out
                 have e:hPay n hp dep ex wt d=c1++(c2++(d++List.replicate n 0)):=by unfold hPay;rw [G1.out,G2.out]
                 rw [e]
                 simp only [List.length_append,List.length_replicate]
                 omega
             · go_simp
               refine (padZeros_any _).mono ?_
               rintro e w' ⟨rfl,rfl⟩
               go_wp2_with fail
               refine hK.out _ _ (blk_cell HB6.out 4) (fun hHeld1 => ?_)
               clear hK K'
               try simp only [Act.put,sxA,sxB,sxC]
               refine tkSr 8 (.slice (some ⟨w6.heap.size,0,none⟩) n 255) ?_;try simp only [Act.put,sxA,sxB,sxC]
               refine wpAnyH_ready (rs:=[4]) (by kernel_rfl) (by simp) ?_
               refine AllReadyH.cons rfl (fun K' hK => ?_) AllReadyH.nil
               go_simp
               refine hK.out _ _ hHeld1 (fun hHeld2 => ?_)
               clear hK K' hHeld1
               try simp only [Act.put,sxA,sxB,sxC]
               refine wpAnyH_ready (rs:=[9]) (by kernel_rfl) (by simp) ?_
               refine AllReadyH.cons rfl (fun K' hK => ?_) AllReadyH.nil
               refine step_app E5 rfl _ _ rfl (.slice a5 (D.length+d.length) z5) (D.length+d.length) (bv E) rfl (by have h:=H6.out.own;rw [HEL.out] at h;exact h) n (bv (List.replicate n 0)) (by have h:=src_of_rd Z6.out;rw [List.length_replicate] at h;exact h) hbb h63 ?_
               intro a7 z7 w7 own7 g7 t7
               have B7:=Lib.hid (blk_grown HB6.out g7 N6.out)
               have F7:=blk_grown H6.out.F g7 H6.out.neF
               have q8:w7.cell? ⟨bF,20,none⟩=some (.slice a5 (D.length+d.length) z5):=blk_cell F7 20
               have y7:=blk_free F7 20
               clear F7
               have P7:=Lib.hid (H6.out.put (cur':=E++List.replicate n 0) g7 (by rw [List.length_append,HEL.out,List.length_replicate,bv_append];exact own7) t7)
               clear own7 g7 t7
               refine hK.out _ _ (blk_cell B7.out 4) (fun hHeld3 => ?_)
               clear hK K'
               try simp only [Act.put,sxA,sxB,sxC]
               refine tkSr 10 (.pointer (some ⟨bF,0,none⟩)) ?_;try simp only [Act.put,sxA,sxB,sxC]
               refine tkSr 11 (.pointer (some ⟨bF,20,none⟩)) ?_;try simp only [Act.put,sxA,sxB,sxC]
               refine wpAnyH_ready (rs:=[12]) (by kernel_rfl) (by simp) ?_
               refine AllReadyH.cons rfl (fun K' hK => ?_) AllReadyH.nil
               go_simp
               refine hK.out _ _ (blk_cell (blk_set_other B7.out hne' _) 4) (fun hHeld4 => ?_)
               clear hK K'
               try simp only [Act.put,sxA,sxB,sxC]
               refine wpAnyH_done (by kernel_rfl) ?_ _
               obtain ⟨w8,hw8⟩:∃w8,w7.setCell ⟨bF,20,none⟩ (.slice a7 (D.length+d.length+n) z7)=w8:=⟨_,rfl⟩
               have P8:=P7.out
               rw [hw8] at P8 ⊢
               have hol:(E++List.replicate n 0).length≤200000∧9≤(E++List.replicate n 0).length:=by have:=HEL.out;rw [List.length_append,List.length_replicate];omega
               have HOL:=Lib.hid hol
               have P9:=Lib.hid P8
               clear hw8 P7 B7 q8 y7 p4 e20 e20a f20 P8 hol hHeld4
               go_wp2_with (go_at_call 96;refine (endWrite_any P9.out.1 HOL.out.2 (by have:=HOL.out.1;omega) (by omega)).mono ?_;rintro e w9 ⟨rfl,k9,wb9,al9,h9⟩)
               go_ret
               refine Sent.fin 1 f4 s _ (KW.out.trans ((KT.out.trans (((Kept.refl _ _).drew.trans PK.out).trans ((((Kept.refl _ _).drew).alloc _).trans (P9.out.2.trans k9)))).mono fun k h _ => .inl h)) (h9.narrow fun k h => .inl h) ?_ ?_
               · rw [←HEE.out,←HDD.out,←HC.out,←G1.out,←G2.out]
                 unfold hPay
                 simp only [List.append_assoc]
               · have h1:=HOL.out.1
                 have h2:=congrArg List.length HEE.out
                 have h3:=congrArg List.length HDD.out
                 have h4:=congrArg List.length HC.out
                 have h5:=HEL.out
                 have e:hPay n hp dep ex wt d=c1++(c2++(d++List.replicate n 0)):=by unfold hPay;rw [G1.out,G2.out]
                 rw [e]
                 simp only [List.length_append,List.length_replicate]
                 omega
end Go.Proofs.YtfdlbjibninakaaGreatDoor

namespace Go.Proofs.YtfdlbjibninakaaGreatDoor
set_option maxRecDepth 100000
set_option maxHeartbeats 8000000
open Go.RowKit
def pFl (n:Nat) (whole:Bool):Int:=(if n=0 then 0 else 8)+(if whole then 4 else 0)
def pPay (n:Nat) (pr:Int) (d:List Int):List Int:=(if n=0 then [] else [(n:Int)])++(be32 pr++(d++List.replicate n 0))
variable {K : Nat → Prop} {w : World} {bF cl bW : Nat} {cur out : List Int} {wb al : Value}
theorem wPush (h:WS K w bF cl bW cur out wb al) (s pr:Int) (h0:0<s) (h1:s≤2147483647) (r0:0<pr) (r1:pr≤2147483647) (whole:Bool) (n:Nat) (hn:n≤255) (ho:out.length≤50000000) {dv:Value} {d:List Int} (hd:RdB w dv d) (hK:inK K dv) (hdl:d.length≤100000) :
   Calls Tryz.prog 72 #[.pointer (some ⟨bF,0,none⟩),.agg #[.int .u32 s,.int .u32 pr,dv,.bool whole,.int .u8 n]] w (Sent K w bF cl bW (out++frB 5 (pFl n whole) s (pPay n pr d))):=by
 have hv:=vs_yes h0 h1
 have hvr:=vs_yes r0 r1
 obtain ⟨da,dc,rfl,-,-⟩:=id hd
 obtain ⟨f1,e1⟩:∃f:Int,(if n=0 then 0 else 8)=f:=⟨_,rfl⟩
 obtain ⟨f2,e2⟩:∃f:Int,f1+(if whole then 4 else 0)=f:=⟨_,rfl⟩
 have e5:pFl n whole=f2:=by unfold pFl;rw [e1,e2]
 have q1:f1=0∨f1=8:=by rw [←e1];split<;>simp
 have o1:bits .or .u8 0 8=8:=by decide
 have o3:bits .or .u8 f1 4=f1+4:=by rcases q1 with rfl|rfl<;>decide
 obtain ⟨bP,hbP⟩:∃b,w.heap.size=b:=⟨_,rfl⟩
 have hb:=h.box (.cells #[.int .u32 s,.int .u32 pr,.slice da d.length dc,.bool whole,.int .u8 n] 182)
 have hB:(w.alloc (.cells #[.int .u32 s,.int .u32 pr,.slice da d.length dc,.bool whole,.int .u8 n] 182)).heap[w.heap.size]? = some (.cells #[.int .u32 s,.int .u32 pr,.slice da d.length dc,.bool whole,.int .u8 n] 182 (0,0)):=blk_new w _
 rw [hbP] at hB hb
 have HB:=Lib.hid hB
 have HW:=Lib.hid hb
 have E1:=Lib.hid e1
 have E2:=Lib.hid e2
 have HD:=Lib.hid (hd.kept ((Kept.refl K w).alloc (.cells #[.int .u32 s,.int .u32 pr,.slice da d.length dc,.bool whole,.int .u8 n] 182)) hK)
 have KW:=Lib.hid ((Kept.refl K w).alloc (.cells #[.int .u32 s,.int .u32 pr,.slice da d.length dc,.bool whole,.int .u8 n] 182))
 rw [e5]
 clear hB hb e1 e2 e5 q1 hd h
 go_enter Tryz.func72,Tryz.ntmps72
 go_upto_if 20 with (go_at_call 97;refine (validStreamID_any s _ (by omega) (by omega)).mono ?_;rw [hv];rintro e w' ⟨rfl,rfl⟩)
 go_cut [5] from 6 (fun v wc=>v = .int .u8 f1∧w.alloc (.cells #[.int .u32 s,.int .u32 pr,.slice da d.length dc,.bool whole,.int .u8 n] 182)=wc)
 case first =>
   rcases Nat.eq_zero_or_pos n with hn0|hn0
   · have hc:((n:Int) != 0)=false:=by simp [hn0]
     have HN:=Lib.hid hn0
     clear hn0
     go_wp2
     go_meet
     case rel=>exact ⟨by rw [←E1.out,if_pos HN.out],rfl⟩
   · have hc:((n:Int) != 0)=true:=by simp;omega
     go_wp2
     go_meet
     case rel=>exact ⟨by rw [←E1.out,if_neg (by omega)],rfl⟩
 case rest =>
   obtain ⟨rfl,rfl⟩:=hcut
   go_upto_if 24 with fail
   go_cut [5] from 6 (fun v wc=>v = .int .u8 f2∧w.alloc (.cells #[.int .u32 s,.int .u32 pr,.slice da d.length dc,.bool whole,.int .u8 n] 182)=wc)
   case first =>
     cases whole
     all_goals
       go_wp2
       go_meet
       exact ⟨by rw [←E2.out];simp,rfl⟩
   case rest =>
     obtain ⟨rfl,rfl⟩:=hcut
     obtain ⟨C,hC,hCl,hsw⟩:=startWrite_let HW.out 5 f2 s (by omega) (by omega)
     have SW:=Lib.hid (hsw _ _ _ HW.out)
     have HC:=Lib.hid hC
     have HCL:=Lib.hid hCl
     clear hC hCl hsw
     obtain ⟨c1,g1⟩:∃c:List Int,(if n=0 then [] else [(n:Int)])=c:=⟨_,rfl⟩
     have l1:c1.length≤1:=by rw [←g1];split<;>simp
     have l2:(be32 pr).length=4:=rfl
     have G1:=Lib.hid g1
     have L2:=Lib.hid l2
     clear g1 l2
     go_upto_if 34 with (go_at_call 99;refine SW.out.mono ?_;rintro e w2 ⟨rfl,k2,wb2,al2,h2⟩;have B2:=k2.at (.inr rfl) HB.out;have p4:=blk_cell B2 4)
     go_cut [5] from 6 (fun _ wc=>Kept (fun k=>K k∨k=bP) w2 wc ∧ ∃wb al,WS (fun k=>K k∨k=bP) wc bF cl bW (C++c1) out wb al)
     case first =>
       rcases Nat.eq_zero_or_pos n with hn0|hn0
       · have hc:((n:Int) != 0)=false:=by simp [hn0]
         have HN:=Lib.hid hn0
         clear hn0
         go_wp2
         go_meet
         case rel=>exact ⟨Kept.refl _ _,_,_,by rw [←G1.out,if_pos HN.out,List.append_nil];exact h2⟩
       · have hc:((n:Int) != 0)=true:=by simp;omega
         go_wp2_with (go_at_call 100;refine (writeByte_any h2 n (by have:=HCL.out;omega)).mono ?_;rintro e w3 ⟨rfl,k3,wb3,al3,h3⟩)
         go_meet
         case rel=>exact ⟨k3,_,_,by rw [←G1.out,if_neg (by omega)];exact h3⟩
     case rest =>
       obtain ⟨k3,wb3,al3,h3⟩:=hcut
       have B3:=k3.at (.inr rfl) B2
       have q1:=blk_cell B3 1
       obtain ⟨wq,hwq⟩:∃wq,wc=wq:=⟨_,rfl⟩
       rw [hwq] at k3 h3 B3 q1 ⊢
       clear hwq p4 B2 h2
       have hl3:(C++c1).length≤10:=by have:=HCL.out;rw [List.length_append];omega
       have HL3:=Lib.hid hl3
       clear hl3
       have hvq:=Lib.hid fun w=>validStreamID_any pr w (by omega) (by omega)
       go_wp2_with (first
         | (go_at_call 97;refine (hvq.out _).mono ?_;rw [hvr];rintro e w' ⟨rfl,rfl⟩)
         | (go_at_call 102;refine (writeUint32_any h3 pr (by omega) (by omega) (by have:=HL3.out;omega)).mono ?_;rintro e wc ⟨rfl,k4,wb4,al4,h4⟩))
       have B4:=k4.at (.inr rfl) B3
       obtain ⟨D,hD⟩:∃D,C++c1++be32 pr=D:=⟨_,rfl⟩
       have hDl:D.length≤15∧9≤D.length:=by have:=HCL.out;have:=L2.out;rw [←hD,List.length_append,List.length_append];omega
       obtain ⟨hDl1,hDl2⟩:=hDl
       rw [hD] at h4
       have HDD:=Lib.hid hD
       have KT:=Lib.hid ((k2.trans (k3.trans k4)):Kept (fun k=>K k∨k=bP) (w.alloc (.cells #[.int .u32 s,.int .u32 pr,.slice da d.length dc,.bool whole,.int .u8 n] 182)) _)
       have hd4:=HD.out.kept (KT.out.mono fun k h _ => .inl h) hK
       have p1:wc.cell? ⟨bP,2,none⟩=some (.slice da d.length dc):=blk_cell B4 2
       have p4:wc.cell? ⟨bP,4,none⟩=some (.int .u8 n):=blk_cell B4 4
       obtain ⟨a4,z4,rfl,hz4,hzm⟩:=own_shape h4.own
       have e20:wc.cell? ⟨bF,20,none⟩=some (.slice a4 D.length z4):=blk_cell h4.F 20
       have f20:=blk_free h4.F 20
       have hne:¬bF=bP:=fun e=>HW.out.kF (.inr e)
       have hne':¬bP=bF:=fun e=>hne e.symm
       have NE:=Lib.hid (own_block h4.own B4 (by decide))
       have H4:=Lib.hid h4.drew
       have HD4:=Lib.hid (hd4.kept ((Kept.refl K wc).drew) hK)
       have HB4:=Lib.hid (show wc.drew.heap[bP]? = some _ from B4)
       clear h4 hd4 B4 hD k4
       go_wp2
       refine wp_region_held_drew (S:=fun w'=>w'.cell? ⟨bP,2,none⟩=some (.slice da d.length dc)) (by kernel_rfl) (show wc.drew.cell? ⟨bP,2,none⟩=_ from p1) (fun hHeld => ?_)
       refine tkSr 0 (.pointer (some ⟨bF,0,none⟩)) ?_;try simp only [Act.put,sxA,sxB,sxC]
       refine tkSr 1 (.pointer (some ⟨bF,0,none⟩)) ?_;try simp only [Act.put,sxA,sxB,sxC]
       refine tkSr 2 (.pointer (some ⟨bF,0,none⟩)) ?_;try simp only [Act.put,sxA,sxB,sxC]
       refine tkSr 3 (.pointer (some ⟨bF,20,none⟩)) ?_;try simp only [Act.put,sxA,sxB,sxC]
       refine tkSr 5 (.pointer (some ⟨bP,2,none⟩)) ?_;try simp only [Act.put,sxA,sxB,sxC]
       refine tkLr 6 (.slice da d.length dc) ?_ ?_
       · intro w' hSw;go_simp
       try simp only [Act.put,sxA,sxB,sxC]
       refine wpAnyH_ready (rs:=[4]) (by kernel_rfl) (by simp) ?_
       refine AllReadyH.cons rfl (fun K' hK => ?_) AllReadyH.nil
       go_simp
       refine hK.out _ _ hHeld (fun hHeld1 => ?_)
       clear hK K'
       try simp only [Act.put,sxA,sxB,sxC]
       refine wpAnyH_ready (rs:=[7]) (by kernel_rfl) (by simp) ?_
       refine AllReadyH.cons rfl (fun K' hK => ?_) AllReadyH.nil
       refine step_app E5 rfl _ _ rfl (.slice a4 D.length z4) D.length (bv D) rfl H4.out.own d.length (bv d) (src_of_rd HD4.out) (by omega) (by unfold maxLen;omega) ?_
       intro a5 z5 w5 own5 g5 t5
       have B5:=Lib.hid (blk_grown HB4.out g5 NE.out)
       have q1:w5.cell? ⟨bP,2,none⟩=some (.slice da d.length dc):=blk_cell B5.out 2
       have F5:=blk_grown H4.out.F g5 H4.out.neF
       have q5:w5.cell? ⟨bF,20,none⟩=some (.slice a4 D.length z4):=blk_cell F5 20
       have y5:=blk_free F5 20
       clear F5
       have P5:=Lib.hid (H4.out.put (cur':=D++d) g5 (by rw [List.length_append,bv_append];exact own5) t5)
       clear own5 g5 t5
       refine hK.out _ _ q1 (fun hHeld2 => ?_)
       clear hK K' hHeld hHeld1
       try simp only [Act.put,sxA,sxB,sxC]
       refine tkSr 8 (.pointer (some ⟨bF,0,none⟩)) ?_;try simp only [Act.put,sxA,sxB,sxC]
       refine tkSr 9 (.pointer (some ⟨bF,20,none⟩)) ?_;try simp only [Act.put,sxA,sxB,sxC]
       refine wpAnyH_ready (rs:=[10]) (by kernel_rfl) (by simp) ?_
       refine AllReadyH.cons rfl (fun K' hK => ?_) AllReadyH.nil
       go_simp
       refine hK.out _ _ (blk_cell (blk_set_other B5.out hne' _) 2) (fun hHeld3 => ?_)
       clear hK K' hHeld2 hHeld3
       try simp only [Act.put,sxA,sxB,sxC]
       refine wpAnyH_done (by kernel_rfl) ?_ _
       obtain ⟨w6,hw6⟩:∃w6,w5.setCell ⟨bF,20,none⟩ (.slice a5 (D.length+d.length) z5)=w6:=⟨_,rfl⟩
       have P6:=P5.out
       have B6:(w5.setCell ⟨bF,20,none⟩ (.slice a5 (D.length+d.length) z5)).heap[bP]? = some (.cells #[.int .u32 s,.int .u32 pr,.slice da d.length dc,.bool whole,.int .u8 n] 182 (0,0)):=blk_set_other B5.out hne' _
       rw [hw6] at P6 B6 ⊢
       clear hw6 P5 B5 q1 q5 y5 p1 p4 e20 f20
       have p4:w6.cell? ⟨bP,4,none⟩=some (.int .u8 n):=blk_cell B6 4
       have e20:w6.cell? ⟨bF,20,none⟩=some (.slice a5 (D.length+d.length) z5):=blk_cell P6.1.F 20
       have f20:=blk_free P6.1.F 20
       obtain ⟨E,hE⟩:∃E,D++d=E:=⟨_,rfl⟩
       have hEl:E.length=D.length+d.length:=by rw [←hE,List.length_append]
       rw [hE] at P6
       have HEE:=Lib.hid hE
       have HEL:=Lib.hid hEl
       have PK:=Lib.hid P6.2
       have H6:=Lib.hid ((P6.1.drew).alloc (.cells (zB 255) 5))
       have N6:=Lib.hid (own_block P6.1.own B6 (by decide))
       have HB6:=Lib.hid (blk_alloc (w:=w6.drew) (p:=.cells (zB 255) 5) B6)
       have Z6:=Lib.hid (rd_zB (blk_new w6.drew (.cells (zB 255) 5)) hn)
       have hbb:(D.length+d.length+n)*1≤140737488355328:=by omega
       have h63:D.length+d.length+n≤maxLen:=by unfold maxLen;omega
       have hn2:(n:Int)≤255:=by omega
       have e20a:(w6.alloc (.cells (zB 255) 5)).cell? ⟨bF,20,none⟩=some (.slice a5 (D.length+d.length) z5):=cell_alloc e20 _
       have n1:¬w6.heap.size=bF:=World.new_ne w6 _ e20
       have n2:¬w6.heap.size=bP:=World.new_ne w6 _ p4
       have n3:¬bF=w6.heap.size:=fun e=>n1 e.symm
       have n4:¬bP=w6.heap.size:=fun e=>n2 e.symm
       clear P6 B6 hE hEl
       go_wp2
       refine wp_region_held_drew (S:=fun w'=>w'.cell? ⟨bP,4,none⟩=some (.int .u8 n)) (by kernel_rfl) (show w6.drew.cell? ⟨bP,4,none⟩=_ from p4) (fun hHeld => ?_)
       refine tkSr 0 (.pointer (some ⟨bF,0,none⟩)) ?_;try simp only [Act.put,sxA,sxB,sxC]
       refine tkSr 1 (.pointer (some ⟨bF,0,none⟩)) ?_;try simp only [Act.put,sxA,sxB,sxC]
       refine tkSr 2 (.pointer (some ⟨bF,0,none⟩)) ?_;try simp only [Act.put,sxA,sxB,sxC]
       refine tkSr 3 (.pointer (some ⟨bF,20,none⟩)) ?_;try simp only [Act.put,sxA,sxB,sxC]
       refine tkSr 6 (.pointer (some ⟨bP,4,none⟩)) ?_;try simp only [Act.put,sxA,sxB,sxC]
       refine tkLr 7 (.int .u8 n) ?_ ?_
       · intro w' hSw;go_simp
       try simp only [Act.put,sxA,sxB,sxC]
       refine wpAnyH_ready (rs:=[4,5]) (by kernel_rfl) (by simp) ?_
       refine AllReadyH.cons rfl (fun K' hK => ?_) (AllReadyH.cons rfl (fun K' hK => ?_) AllReadyH.nil)
       · go_simp
         refine hK.out _ _ hHeld (fun hHeld1 => ?_)
         clear hK K'
         try simp only [Act.put,sxA,sxB,sxC]
         refine wpAnyH_ready (rs:=[5]) (by kernel_rfl) (by simp) ?_
         refine AllReadyH.cons rfl (fun K' hK => ?_) AllReadyH.nil
         go_simp
         refine (padZeros_any _).mono ?_
         rintro e w' ⟨rfl,rfl⟩
         go_wp2_with fail
         refine hK.out _ _ (blk_cell HB6.out 4) (fun hHeld2 => ?_)
         clear hK K' hHeld1
         try simp only [Act.put,sxA,sxB,sxC]
         refine tkSr 8 (.slice (some ⟨w6.heap.size,0,none⟩) n 255) ?_;try simp only [Act.put,sxA,sxB,sxC]
         refine wpAnyH_ready (rs:=[9]) (by kernel_rfl) (by simp) ?_
         refine AllReadyH.cons rfl (fun K' hK => ?_) AllReadyH.nil
         refine step_app E5 rfl _ _ rfl (.slice a5 (D.length+d.length) z5) (D.length+d.length) (bv E) rfl (by have h:=H6.out.own;rw [HEL.out] at h;exact h) n (bv (List.replicate n 0)) (by have h:=src_of_rd Z6.out;rw [List.length_replicate] at h;exact h) hbb h63 ?_
         intro a7 z7 w7 own7 g7 t7
         have B7:=Lib.hid (blk_grown HB6.out g7 N6.out)
         have F7:=blk_grown H6.out.F g7 H6.out.neF
         have q8:w7.cell? ⟨bF,20,none⟩=some (.slice a5 (D.length+d.length) z5):=blk_cell F7 20
         have y7:=blk_free F7 20
         clear F7
         have P7:=Lib.hid (H6.out.put (cur':=E++List.replicate n 0) g7 (by rw [List.length_append,HEL.out,List.length_replicate,bv_append];exact own7) t7)
         clear own7 g7 t7
         refine hK.out _ _ (blk_cell B7.out 4) (fun hHeld3 => ?_)
         clear hK K'
         try simp only [Act.put,sxA,sxB,sxC]
         refine tkSr 10 (.pointer (some ⟨bF,0,none⟩)) ?_;try simp only [Act.put,sxA,sxB,sxC]
         refine tkSr 11 (.pointer (some ⟨bF,20,none⟩)) ?_;try simp only [Act.put,sxA,sxB,sxC]
         refine wpAnyH_ready (rs:=[12]) (by kernel_rfl) (by simp) ?_
         refine AllReadyH.cons rfl (fun K' hK => ?_) AllReadyH.nil
         go_simp
         refine hK.out _ _ (blk_cell (blk_set_other B7.out hne' _) 4) (fun hHeld4 => ?_)
         clear hK K'
         try simp only [Act.put,sxA,sxB,sxC]
         refine wpAnyH_done (by kernel_rfl) ?_ _
         obtain ⟨w8,hw8⟩:∃w8,w7.setCell ⟨bF,20,none⟩ (.slice a7 (D.length+d.length+n) z7)=w8:=⟨_,rfl⟩
         have P8:=P7.out
         rw [hw8] at P8 ⊢
         have hol:(E++List.replicate n 0).length≤200000∧9≤(E++List.replicate n 0).length:=by have:=HEL.out;rw [List.length_append,List.length_replicate];omega
         have HOL:=Lib.hid hol
         have P9:=Lib.hid P8
         clear hw8 P7 B7 q8 y7 p4 e20 e20a f20 P8 hol hHeld4
         go_wp2_with (go_at_call 96;refine (endWrite_any P9.out.1 HOL.out.2 (by have:=HOL.out.1;omega) (by omega)).mono ?_;rintro e w9 ⟨rfl,k9,wb9,al9,h9⟩)
         go_ret
         refine Sent.fin 5 f2 s _ (KW.out.trans ((KT.out.trans (((Kept.refl _ _).drew.trans PK.out).trans ((((Kept.refl _ _).drew).alloc _).trans (P9.out.2.trans k9)))).mono fun k h _ => .inl h)) (h9.narrow fun k h => .inl h) ?_ ?_
         · rw [←HEE.out,←HDD.out,←HC.out,←G1.out]
           unfold pPay
           simp only [List.append_assoc]
         · have h1:=HOL.out.1
           have h2:=congrArg List.length HEE.out
           have h3:=congrArg List.length HDD.out
           have h4:=congrArg List.length HC.out
           have h5:=HEL.out;have h6:=L2.out
           have e:pPay n pr d=c1++(be32 pr++(d++List.replicate n 0)):=by unfold pPay;rw [G1.out]
           rw [e]
           simp only [List.length_append,List.length_replicate]
           omega
       · go_simp
         refine (padZeros_any _).mono ?_
         rintro e w' ⟨rfl,rfl⟩
         go_wp2_with fail
         refine hK.out _ _ (blk_cell HB6.out 4) (fun hHeld1 => ?_)
         clear hK K'
         try simp only [Act.put,sxA,sxB,sxC]
         refine tkSr 8 (.slice (some ⟨w6.heap.size,0,none⟩) n 255) ?_;try simp only [Act.put,sxA,sxB,sxC]
         refine wpAnyH_ready (rs:=[4]) (by kernel_rfl) (by simp) ?_
         refine AllReadyH.cons rfl (fun K' hK => ?_) AllReadyH.nil
         go_simp
         refine hK.out _ _ hHeld1 (fun hHeld2 => ?_)
         clear hK K' hHeld1
         try simp only [Act.put,sxA,sxB,sxC]
         refine wpAnyH_ready (rs:=[9]) (by kernel_rfl) (by simp) ?_
         refine AllReadyH.cons rfl (fun K' hK => ?_) AllReadyH.nil
         refine step_app E5 rfl _ _ rfl (.slice a5 (D.length+d.length) z5) (D.length+d.length) (bv E) rfl (by have h:=H6.out.own;rw [HEL.out] at h;exact h) n (bv (List.replicate n 0)) (by have h:=src_of_rd Z6.out;rw [List.length_replicate] at h;exact h) hbb h63 ?_
         intro a7 z7 w7 own7 g7 t7
         have B7:=Lib.hid (blk_grown HB6.out g7 N6.out)
         have F7:=blk_grown H6.out.F g7 H6.out.neF
         have q8:w7.cell? ⟨bF,20,none⟩=some (.slice a5 (D.length+d.length) z5):=blk_cell F7 20
         have y7:=blk_free F7 20
         clear F7
         have P7:=Lib.hid (H6.out.put (cur':=E++List.replicate n 0) g7 (by rw [List.length_append,HEL.out,List.length_replicate,bv_append];exact own7) t7)
         clear own7 g7 t7
         refine hK.out _ _ (blk_cell B7.out 4) (fun hHeld3 => ?_)
         clear hK K'
         try simp only [Act.put,sxA,sxB,sxC]
         refine tkSr 10 (.pointer (some ⟨bF,0,none⟩)) ?_;try simp only [Act.put,sxA,sxB,sxC]
         refine tkSr 11 (.pointer (some ⟨bF,20,none⟩)) ?_;try simp only [Act.put,sxA,sxB,sxC]
         refine wpAnyH_ready (rs:=[12]) (by kernel_rfl) (by simp) ?_
         refine AllReadyH.cons rfl (fun K' hK => ?_) AllReadyH.nil
         go_simp
         refine hK.out _ _ (blk_cell (blk_set_other B7.out hne' _) 4) (fun hHeld4 => ?_)
         clear hK K'
         try simp only [Act.put,sxA,sxB,sxC]
         refine wpAnyH_done (by kernel_rfl) ?_ _
         obtain ⟨w8,hw8⟩:∃w8,w7.setCell ⟨bF,20,none⟩ (.slice a7 (D.length+d.length+n) z7)=w8:=⟨_,rfl⟩
         have P8:=P7.out
         rw [hw8] at P8 ⊢
         have hol:(E++List.replicate n 0).length≤200000∧9≤(E++List.replicate n 0).length:=by have:=HEL.out;rw [List.length_append,List.length_replicate];omega
         have HOL:=Lib.hid hol
         have P9:=Lib.hid P8
         clear hw8 P7 B7 q8 y7 p4 e20 e20a f20 P8 hol hHeld4
         go_wp2_with (go_at_call 96;refine (endWrite_any P9.out.1 HOL.out.2 (by have:=HOL.out.1;omega) (by omega)).mono ?_;rintro e w9 ⟨rfl,k9,wb9,al9,h9⟩)
         go_ret
         refine Sent.fin 5 f2 s _ (KW.out.trans ((KT.out.trans (((Kept.refl _ _).drew.trans PK.out).trans ((((Kept.refl _ _).drew).alloc _).trans (P9.out.2.trans k9)))).mono fun k h _ => .inl h)) (h9.narrow fun k h => .inl h) ?_ ?_
         · rw [←HEE.out,←HDD.out,←HC.out,←G1.out]
           unfold pPay
           simp only [List.append_assoc]
         · have h1:=HOL.out.1
           have h2:=congrArg List.length HEE.out
           have h3:=congrArg List.length HDD.out
           have h4:=congrArg List.length HC.out
           have h5:=HEL.out;have h6:=L2.out
           have e:pPay n pr d=c1++(be32 pr++(d++List.replicate n 0)):=by unfold pPay;rw [G1.out]
           rw [e]
           simp only [List.length_append,List.length_replicate]
           omega
end Go.Proofs.YtfdlbjibninakaaGreatDoor

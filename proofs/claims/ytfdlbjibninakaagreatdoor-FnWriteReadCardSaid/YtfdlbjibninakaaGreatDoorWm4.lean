/- The Write methods at legal frames: DATA. -/
import Derived.Test.YtfdlbjibninakaaGreatDoorSb
import Derived.Test.YtfdlbjibninakaaGreatDoorWz
import Derived.Test.YtfdlbjibninakaaGreatDoorCf
import Derived.BigQuiet
import Derived.Deep.QuietTactic
import Derived.Deep.RegionHeld3
set_option linter.unusedVariables false
set_option linter.unusedSimpArgs false
namespace Go.Proofs.YtfdlbjibninakaaGreatDoor
set_option maxRecDepth 10000
set_option maxHeartbeats 2000000
open Go.RowKit
def frB (t fl s:Int) (pay:List Int):List Int:=Pl.wHd pay.length t fl s++pay
theorem be32_w (v:Int):be32 v=Pl.w32 v:=rfl
theorem sealed_frB {t fl s:Int} {pay c:List Int} (e:c=hdr0 t fl s++pay) (hl:pay.length≤16000000):sealed c=frB t fl s pay:=by
 subst e
 have h1:(((hdr0 t fl s++pay).length:Nat):Int)-9=pay.length:=by rw [List.length_append];simp [hdr0];omega
 have h2:(pay.length:Int) / 65536%256=pay.length / 65536:=by omega
 unfold sealed frB Pl.wHd
 rw [h1,h2]
 rfl
def Sent (K:Nat→Prop) (w:World) (bF cl bW:Nat) (out:List Int) (e:Ending) (w':World):Prop:=e = .returned .nilIface∧Kept K w w' ∧ ∃cur wb al,WS K w' bF cl bW cur out wb al
theorem Sent.fin {K:Nat→Prop} {w w':World} {bF cl bW:Nat} {c out:List Int} {wb al:Value} (t fl s:Int) (pay:List Int) (hk:Kept K w w') (h:WS K w' bF cl bW (sealed c) (out++sealed c) wb al) (e:c=hdr0 t fl s++pay) (hl:pay.length≤16000000) :
   Sent K w bF cl bW (out++frB t fl s pay) (.returned .nilIface) w':=by
 rw [sealed_frB e hl] at h
 exact ⟨rfl,hk,_,_,_,h⟩
theorem vs_yes {s:Int} (h0:0<s) (h1:s≤2147483647):vs s=true:=by
 unfold vs
 rw [Bool.and_eq_true]
 exact ⟨by simp;omega,decide_eq_true (by omega)⟩
theorem validOrZero_any (s:Int) (w:World) (h0:0≤s) (h1:s≤2147483647):Calls Tryz.prog 101 #[.int .u32 s] w fun e w'=>e = .returned (.bool true)∧w=w':=by
 have hb:bits .and .u32 s 2147483648=0:=by rw [u32_top s h0 (by omega)];omega
 go_enter Tryz.func101,Tryz.ntmps101
 go_wp2_with fail
 go_ret
 exact ⟨rfl,rfl⟩
variable {K : Nat → Prop} {w : World} {bF cl bW : Nat} {cur out : List Int} {wb al : Value}
theorem wRst (h:WS K w bF cl bW cur out wb al) (s c:Int) (h0:0<s) (h1:s≤2147483647) (c0:0≤c) (c1:c<4294967296) (ho:out.length≤50000000) :
   Calls Tryz.prog 69 #[.pointer (some ⟨bF,0,none⟩),.int .u32 s,.int .u32 c] w (Sent K w bF cl bW (out++frB 3 0 s (be32 c))):=by
 have hv:=vs_yes h0 h1
 go_enter Tryz.func69,Tryz.ntmps69
 go_wp2_with (first
   | (go_at_call 97;refine (validStreamID_any s _ (by omega) (by omega)).mono ?_;rw [hv];rintro e w' ⟨rfl,rfl⟩)
   | (go_at_call 99;refine (startWrite_any h 3 0 s (by omega) (by omega)).mono ?_;rintro e w1 ⟨rfl,k1,wb1,al1,h1⟩)
   | (go_at_call 102;refine (writeUint32_any h1 c c0 c1 (by simp [hdr0])).mono ?_;rintro e w2 ⟨rfl,k2,wb2,al2,h2⟩)
   | (go_at_call 96;refine (endWrite_any h2 (by simp [hdr0]) (by simp [hdr0,be32]) (by omega)).mono ?_;rintro e w3 ⟨rfl,k3,wb3,al3,h3⟩))
 go_ret
 exact Sent.fin 3 0 s (be32 c) ((k1.trans k2).trans k3) h3 rfl (by simp [be32])
theorem wWindow (h:WS K w bF cl bW cur out wb al) (s c:Int) (h0:0≤s) (h1:s≤2147483647) (c0:0<c) (c1:c≤2147483647) (ho:out.length≤50000000) :
   Calls Tryz.prog 75 #[.pointer (some ⟨bF,0,none⟩),.int .u32 s,.int .u32 c] w (Sent K w bF cl bW (out++frB 8 0 s (be32 c))):=by
 have hc1:¬c<1:=by omega
 have hc2:¬2147483647<c:=by omega
 go_enter Tryz.func75,Tryz.ntmps75
 go_wp2_with (first
   | (go_at_call 99;refine (startWrite_any h 8 0 s (by omega) (by omega)).mono ?_;rintro e w1 ⟨rfl,k1,wb1,al1,h1⟩)
   | (go_at_call 102;refine (writeUint32_any h1 c (by omega) (by omega) (by simp [hdr0])).mono ?_;rintro e w2 ⟨rfl,k2,wb2,al2,h2⟩)
   | (go_at_call 96;refine (endWrite_any h2 (by simp [hdr0]) (by simp [hdr0,be32]) (by omega)).mono ?_;rintro e w3 ⟨rfl,k3,wb3,al3,h3⟩))
 go_ret
 exact Sent.fin 8 0 s (be32 c) ((k1.trans k2).trans k3) h3 rfl (by simp [be32])
theorem wGoAway (h:WS K w bF cl bW cur out wb al) (s c:Int) (h0:0≤s) (h1:s≤2147483647) (c0:0≤c) (c1:c<4294967296) (ho:out.length≤50000000) {dv:Value} {d:List Int} (hd:RdB w dv d) (hK:inK K dv) (hdl:d.length≤100000) :
   Calls Tryz.prog 74 #[.pointer (some ⟨bF,0,none⟩),.int .u32 s,.int .u32 c,dv] w (Sent K w bF cl bW (out++frB 7 0 0 (be32 s++(be32 c++d)))):=by
 have hb:bits .and .u32 s 2147483647=s:=by rw [u32_low s h0 (by omega)];omega
 have hs1:s<4294967296:=by omega
 have l9:(hdr0 7 0 0).length≤1000000000:=by simp [hdr0]
 have l13:(hdr0 7 0 0++be32 s).length≤1000000000:=by simp [hdr0,be32]
 have L9:=Lib.hid l9
 have L13:=Lib.hid l13
 clear l9 l13
 go_enter Tryz.func74,Tryz.ntmps74
 go_wp2_with (first
   | (go_at_call 99;refine (startWrite_any h 7 0 0 (by omega) (by omega)).mono ?_;rintro e w1 ⟨rfl,k1,wb1,al1,h1⟩)
   | (go_at_call 102;((with_reducible refine (writeUint32_any h1 s h0 hs1 L9.out).mono ?_);rintro e w2 ⟨rfl,k2,wb2,al2,h2⟩))
   | (go_at_call 102;((with_reducible refine (writeUint32_any h2 c c0 c1 L13.out).mono ?_);rintro e w3 ⟨rfl,k3,wb3,al3,h3⟩))
   | (go_at_call 105;refine (writeBytes_any h3 (hd.kept ((k1.trans k2).trans k3) hK) (by simp [hdr0,be32]) (by omega)).mono ?_;rintro e w4 ⟨rfl,k4,wb4,al4,h4⟩)
   | (go_at_call 96;refine (endWrite_any h4 (by simp [hdr0]<;>omega) (by simp [hdr0,be32]<;>omega) (by omega)).mono ?_;rintro e w5 ⟨rfl,k5,wb5,al5,h5⟩))
 go_ret
 exact Sent.fin 7 0 0 (be32 s++(be32 c++d)) ((((k1.trans k2).trans k3).trans k4).trans k5) h5 (by simp) (by simp [be32];omega)
theorem wAck (h:WS K w bF cl bW cur out wb al) (ho:out.length≤50000000) :
   Calls Tryz.prog 70 #[.pointer (some ⟨bF,0,none⟩)] w (Sent K w bF cl bW (out++frB 4 1 0 [])):=by
 go_enter Tryz.func70,Tryz.ntmps70
 go_wp2_with (first
   | (go_at_call 99;refine (startWrite_any h 4 1 0 (by omega) (by omega)).mono ?_;rintro e w1 ⟨rfl,k1,wb1,al1,h1⟩)
   | (go_at_call 96;refine (endWrite_any h1 (by simp [hdr0]) (by simp [hdr0]) (by omega)).mono ?_;rintro e w3 ⟨rfl,k3,wb3,al3,h3⟩))
 go_ret
 exact Sent.fin 4 1 0 [] (k1.trans k3) h3 (by simp) (by simp)
theorem startWrite_let (h:WS K w bF cl bW cur out wb al) (t fl s:Int) (hs0:0≤s) (hs1:s<4294967296):∃C:List Int,C=hdr0 t fl s∧C.length=9 ∧ ∀(w1:World) (wb al:Value),WS K w1 bF cl bW cur out wb al→Calls Tryz.prog 99 #[.pointer (some ⟨bF,0,none⟩),.int .u8 t,.int .u8 fl,.int .u32 s] w1 (Wrote K w1 bF cl bW C out (.tuple #[])):=
 ⟨_,rfl,rfl,fun w1 wb al h=>startWrite_any h t fl s hs0 hs1⟩
theorem wCont (h:WS K w bF cl bW cur out wb al) (s:Int) (h0:0<s) (h1:s≤2147483647) (ends:Bool) (ho:out.length≤50000000) {dv:Value} {d:List Int} (hd:RdB w dv d) (hK:inK K dv) (hdl:d.length≤100000) :
   Calls Tryz.prog 76 #[.pointer (some ⟨bF,0,none⟩),.int .u32 s,.bool ends,dv] w (Sent K w bF cl bW (out++frB 9 (if ends then 4 else 0) s d)):=by
 have hv:=vs_yes h0 h1
 have o4:bits .or .u8 0 4=4:=by decide
 obtain ⟨C,hC,hCl,hsw⟩:=startWrite_let h 9 (if ends then 4 else 0) s (by omega) (by omega)
 have HC:=Lib.hid hC
 have HL:=Lib.hid hCl
 have hC9:C.length≤9:=by omega
 have hC0:9≤C.length:=by omega
 have SW:=Lib.hid hsw
 clear hC hCl hsw
 cases ends
 all_goals
   simp only [if_true,Bool.false_eq_true,if_false] at SW HC ⊢
   go_enter Tryz.func76,Tryz.ntmps76
   go_wp2_with (first
     | (go_at_call 97;refine (validStreamID_any s _ (by omega) (by omega)).mono ?_;rw [hv];rintro e w' ⟨rfl,rfl⟩)
     | (go_at_call 99;refine (SW.out _ _ _ h).mono ?_;rintro e w1 ⟨rfl,k1,wb1,al1,h1⟩;obtain ⟨a1,c1,rfl,hc1,hm1⟩:=own_shape h1.own;have f1:=blk_free h1.F 20;have e1:w1.cell? ⟨bF,20,none⟩=some (.slice a1 C.length c1):=blk_cell h1.F 20)
     | (at_builtin;go_loud (refine wpList_app E5 rfl _ _ rfl (.slice a1 C.length c1) C.length (bv C) rfl h1.own d.length (bv d) (src_of_rd (hd.kept k1 hK)) (by omega) (by unfold maxLen;omega) ?_);intro a' c' w2 hown2 hgrow hat;have hF2:=blk_grown h1.F hgrow h1.neF;have hc2:w2.cell? ⟨bF,20,none⟩=some (.slice a1 C.length c1):=blk_cell hF2 20;have hf2:=blk_free hF2 20;clear hF2;have hp:=h1.put (cur':=C++d) hgrow (by simpa [bv] using hown2) hat)
     | (go_at_call 96;go_loud (refine (endWrite_any hp.1 (by rw [List.length_append];omega) (by rw [List.length_append];omega) (by omega)).mono ?_);rintro e w3 ⟨rfl,k3,wb3,al3,h3⟩))
   go_ret
   exact Sent.fin 9 _ s d ((k1.trans hp.2).trans k3) h3 (by rw [HC.out]) (by omega)
end Go.Proofs.YtfdlbjibninakaaGreatDoor

namespace Go.Proofs.YtfdlbjibninakaaGreatDoor
set_option maxRecDepth 10000
set_option maxHeartbeats 4000000
open Go.RowKit
variable {K : Nat → Prop} {w : World} {bF cl bW : Nat} {cur out : List Int} {wb al : Value}
theorem WS.narrow {K':Nat→Prop} (h:WS K' w bF cl bW cur out wb al) (hk:∀k,K k→K' k):WS K w bF cl bW cur out wb al:=
 ⟨h.F,h.W,h.own,h.all,fun e=>h.kF (hk _ e),fun e=>h.kW (hk _ e),fun g hg e=>h.kw g hg (hk _ e),fun g hg e=>h.ka g hg (hk _ e),h.ne,fun k e=>h.lt k (hk k e)⟩
theorem WS.box (h:WS K w bF cl bW cur out wb al) (o:Obj):WS (fun k=>K k∨k=w.heap.size) (w.alloc o) bF cl bW cur out wb al:=
 h.widen (fun k hk=>hk.imp id fun e=>by subst e;simp) (((Kept.refl (· < w.heap.size) w).alloc o).below (Nat.le_refl _))
theorem Sent.unbox {o:Obj} {e:Ending} {w':World} (hs:Sent (fun k=>K k∨k=w.heap.size) (w.alloc o) bF cl bW out e w'):Sent K w bF cl bW out e w':=by
 obtain ⟨rfl,hk,cur,wb,al,h⟩:=hs
 exact ⟨rfl,((Kept.refl K w).alloc o).trans (hk.mono fun k h _ => .inl h),cur,wb,al,h.narrow fun k h => .inl h⟩
theorem u32_or_top {d:Int} (h0:0≤d) (h1:d≤2147483647):bits .or .u32 d 2147483648=d+2147483648:=by
 obtain ⟨n,rfl⟩:=Int.eq_ofNat_of_zero_le h0
 have hn:n<2 ^ 31:=by omega
 have e:=Nat.two_pow_add_eq_or_of_lt hn 1
 have hx:n ||| 2147483648=n+2147483648:=by
   rw [Nat.or_comm,show (2147483648:Nat)=2 ^ 31*1 from rfl,←e]
   omega
 have a1:(BitVec.ofInt 32 ((n:Nat):Int)).toNat=n:=by rw [BitVec.ofInt_natCast,BitVec.toNat_ofNat];exact Nat.mod_eq_of_lt (by omega)
 show IntKind.u32.wrap ((BitVec.ofInt 32 (n:Int) ||| BitVec.ofInt 32 2147483648).toNat:Int)=_
 rw [BitVec.toNat_or,a1,show (BitVec.ofInt 32 2147483648).toNat=2147483648 from rfl,hx]
 have:(2:Int) ^ 32=4294967296:=by decide
 simp [IntKind.wrap,IntKind.bits,IntKind.signed,this]
 omega
def depN (dep:Int) (ex:Bool):Int:=dep+if ex then 2147483648 else 0
theorem wPriority (h:WS K w bF cl bW cur out wb al) (s dep wt:Int) (ex:Bool) (h0:0<s) (h1:s≤2147483647) (d0:0≤dep) (d1:dep≤2147483647) (ho:out.length≤50000000) :
   Calls Tryz.prog 68 #[.pointer (some ⟨bF,0,none⟩),.int .u32 s,.agg #[.int .u32 dep,.bool ex,.int .u8 wt,.int .u8 0,.int .u8 0]] w (Sent K w bF cl bW (out++frB 2 0 s (be32 (depN dep ex) ++ [wt]))):=by
 have hv:=vs_yes h0 h1
 have hor:=u32_or_top d0 d1
 have hb:=h.box (.cells #[.int .u32 dep,.bool ex,.int .u8 wt,.int .u8 0,.int .u8 0] 133)
 have hB:(w.alloc (.cells #[.int .u32 dep,.bool ex,.int .u8 wt,.int .u8 0,.int .u8 0] 133)).heap[w.heap.size]? = some (.cells #[.int .u32 dep,.bool ex,.int .u8 wt,.int .u8 0,.int .u8 0] 133 (0,0)):=blk_new w _
 have HB:=Lib.hid hB
 clear hB
 unfold depN
 cases ex
 all_goals
   simp only [if_true,Bool.false_eq_true,if_false,Int.add_zero]
   go_enter Tryz.func68,Tryz.ntmps68
   go_wp2_with (first
     | (go_at_call 97;refine (validStreamID_any s _ (by omega) (by omega)).mono ?_;rw [hv];rintro e w' ⟨rfl,rfl⟩)
     | (go_at_call 101;refine (validOrZero_any dep _ d0 d1).mono ?_;rintro e w' ⟨rfl,rfl⟩)
     | (go_at_call 99;refine (startWrite_any hb 2 0 s (by omega) (by omega)).mono ?_;rintro e w1 ⟨rfl,k1,wb1,al1,h1⟩;have B1:=k1.at (.inr rfl) HB.out;have p0:=blk_cell B1 0;have p1:=blk_cell B1 1)
     | (go_at_call 102;refine (writeUint32_any h1 _ (by omega) (by omega) (by simp [hdr0])).mono ?_;rintro e w2 ⟨rfl,k2,wb2,al2,h2⟩;have B2:=k2.at (.inr rfl) B1;have p2:=blk_cell B2 2)
     | (go_at_call 100;refine (writeByte_any h2 wt (by simp [hdr0,be32])).mono ?_;rintro e w3 ⟨rfl,k3,wb3,al3,h3⟩)
     | (go_at_call 96;refine (endWrite_any h3 (by simp [hdr0]) (by simp [hdr0,be32]) (by omega)).mono ?_;rintro e w4 ⟨rfl,k4,wb4,al4,h4⟩))
   go_ret
   exact Sent.unbox (Sent.fin 2 0 s _ (((k1.trans k2).trans k3).trans k4) h4 (by rw [List.append_assoc]) (by simp [be32]))
theorem bytesRow_nums' (b:List Int) (hb:∀x∈b,0≤x∧x<256) (cap j:Nat) (y:Int) (hj:b[j]? = some y):(bytesRow (strOfNums b) cap)[j]? = some (.int .u8 y):=by
 obtain ⟨hlt,he⟩:=List.getElem?_eq_some_iff.1 hj
 have hy:=hb y (List.mem_of_getElem? hj)
 have hs:j<(strOfNums b).data.size:=by simpa [strOfNums] using hlt
 rw [bytesRow_at _ _ _ hs]
 congr 2
 have e:(strOfNums b).data[j]=UInt8.ofNat b[j].toNat:=by simp [strOfNums]
 rw [e,he]
 simp
 omega
theorem rd_bytesRow {b:List Int} (hb:∀x∈b,0≤x∧x<256) (hl:b.length≤100000000) (w:World) (fr:Nat × Nat):RdB (w.drew.alloc (.cells (bytesRow (strOfNums b) (grownCap w b.length 0 5)) 5 fr)) (.slice (some ⟨w.heap.size,0,none⟩) b.length (grownCap w b.length 0 5)) b:=by
 refine ⟨_,_,rfl,grownCap_ge w b.length 0 5,grownCap_le_maxLen w b.length 0 5 (by unfold maxLen;omega),fun j y hj=>⟨w.heap.size,0,rfl,?_⟩⟩
 have hbn:(w.drew.alloc (.cells (bytesRow (strOfNums b) (grownCap w b.length 0 5)) 5 fr)).heap[w.heap.size]? = some (.cells (bytesRow (strOfNums b) (grownCap w b.length 0 5)) 5 fr):=blk_new w.drew _
 rw [Nat.zero_add,cell_of_row _ _ _ _ _ _ hbn]
 exact bytesRow_nums' b hb _ j y hj
theorem wUpdate (h:WS K w bF cl bW cur out wb al) (s:Int) (h0:0<s) (h1:s≤2147483647) (ho:out.length≤50000000) {d:List Int} (hd:∀x∈d,0≤x∧x<256) (hdl:d.length≤100000) :
   Calls Tryz.prog 77 #[.pointer (some ⟨bF,0,none⟩),.int .u32 s,.string (strOfNums d)] w (Sent K w bF cl bW (out++frB 16 0 0 (be32 s++d))):=by
 have hv:=vs_yes h0 h1
 have hcv:=fun w'=>run_bytes_of_string (P:=Tryz.prog) w' 9 22 5 (strOfNums d) Tryz.underlying9 Tryz.underlying22 Tryz.underlying5
 rw [strOfNums_size] at hcv
 have hrd:=fun w fr=>rd_bytesRow hd (by omega) w fr
 have HR:=Lib.hid hrd
 clear hrd hd
 go_enter Tryz.func77,Tryz.ntmps77
 go_wp2_with (first
   | (go_at_call 97;refine (validStreamID_any s _ (by omega) (by omega)).mono ?_;rw [hv];rintro e w' ⟨rfl,rfl⟩)
   | (go_at_call 99;refine (startWrite_any h 16 0 0 (by omega) (by omega)).mono ?_;rintro e w1 ⟨rfl,k1,wb1,al1,h1⟩)
   | (go_at_call 102;refine (writeUint32_any h1 s (by omega) (by omega) (by simp [hdr0])).mono ?_;rintro e w2 ⟨rfl,k2,wb2,al2,h2⟩)
   | (go_at_call 105;refine (writeBytes_any (h2.drew.alloc _) (HR.out _ _) (by simp [hdr0,be32]) (by omega)).mono ?_;rintro e w3 ⟨rfl,k3,wb3,al3,h3⟩)
   | (go_at_call 96;refine (endWrite_any h3 (by simp [hdr0]<;>omega) (by simp [hdr0,be32]<;>omega) (by omega)).mono ?_;rintro e w4 ⟨rfl,k4,wb4,al4,h4⟩))
 go_ret
 exact Sent.fin 16 0 0 _ (((k1.trans k2).trans ((((Kept.refl K w2).drew).alloc _).trans k3)).trans k4) h4 (by rw [List.append_assoc]) (by simp [be32]<;>omega)
theorem rd8 {w:World} {g:Nat} {d0 d1 d2 d3 d4 d5 d6 d7:Int} {T:TypeId} (h:w.heap[g]? = some (.cells #[.int .u8 d0,.int .u8 d1,.int .u8 d2,.int .u8 d3,.int .u8 d4,.int .u8 d5,.int .u8 d6,.int .u8 d7] T (0,0))):RdB w (.slice (some ⟨g,0,none⟩) 8 8) [d0,d1,d2,d3,d4,d5,d6,d7]:=by
 refine ⟨_,8,rfl,Nat.le_refl _,by unfold maxLen;omega,fun j x hj=>⟨g,0,rfl,?_⟩⟩
 rw [Nat.zero_add,blk_cell h]
 match j with
 | 0=>simp at hj;subst hj;rfl
 | 1=>simp at hj;subst hj;rfl
 | 2=>simp at hj;subst hj;rfl
 | 3=>simp at hj;subst hj;rfl
 | 4=>simp at hj;subst hj;rfl
 | 5=>simp at hj;subst hj;rfl
 | 6=>simp at hj;subst hj;rfl
 | 7=>simp at hj;subst hj;rfl
 | j+8=>simp at hj
theorem wPing (h:WS K w bF cl bW cur out wb al) (ends:Bool) (d0 d1 d2 d3 d4 d5 d6 d7:Int) (ho:out.length≤50000000) :
   Calls Tryz.prog 73 #[.pointer (some ⟨bF,0,none⟩),.bool ends,.agg #[.int .u8 d0,.int .u8 d1,.int .u8 d2,.int .u8 d3,.int .u8 d4,.int .u8 d5,.int .u8 d6,.int .u8 d7]] w (Sent K w bF cl bW (out++frB 6 (if ends then 1 else 0) 0 [d0,d1,d2,d3,d4,d5,d6,d7])):=by
 have hb:=h.box (.cells #[.int .u8 d0,.int .u8 d1,.int .u8 d2,.int .u8 d3,.int .u8 d4,.int .u8 d5,.int .u8 d6,.int .u8 d7] 153)
 have hB:(w.alloc (.cells #[.int .u8 d0,.int .u8 d1,.int .u8 d2,.int .u8 d3,.int .u8 d4,.int .u8 d5,.int .u8 d6,.int .u8 d7] 153)).heap[w.heap.size]? = some (.cells #[.int .u8 d0,.int .u8 d1,.int .u8 d2,.int .u8 d3,.int .u8 d4,.int .u8 d5,.int .u8 d6,.int .u8 d7] 153 (0,0)):=blk_new w _
 have HB:=Lib.hid hB
 clear hB
 cases ends
 all_goals
   simp only [if_true,Bool.false_eq_true,if_false]
   go_enter Tryz.func73,Tryz.ntmps73
   go_wp2_with (first
     | (go_at_call 99;refine (startWrite_any hb 6 _ 0 (by omega) (by omega)).mono ?_;rintro e w1 ⟨rfl,k1,wb1,al1,h1⟩;have R1:=rd8 (k1.at (.inr rfl) HB.out))
     | (go_at_call 105;refine (writeBytes_any h1 R1 (by simp [hdr0]) (by simp)).mono ?_;rintro e w3 ⟨rfl,k3,wb3,al3,h3⟩)
     | (go_at_call 96;refine (endWrite_any h3 (by simp [hdr0]) (by simp [hdr0]) (by omega)).mono ?_;rintro e w4 ⟨rfl,k4,wb4,al4,h4⟩))
   go_ret
   exact Sent.unbox (Sent.fin 6 _ 0 _ ((k1.trans k3).trans k4) h4 rfl (by simp))
theorem wSet_snoc (l:List (Int × Int)) (p:Int × Int):Pl.wSet (l ++ [p])=Pl.wSet l++(be16 p.1++be32 p.2):=by
 induction l with
 | nil=>simp [Pl.wSet,Pl.w16,Pl.w32,be16,be32]
 | cons q l ih=>rw [List.cons_append,Pl.wSet,Pl.wSet,ih];simp only [List.append_assoc]
def prH (l:List (Int × Int)):List Value:=l.flatMap fun p => [.int .u16 p.1,.int .u32 p.2]
theorem prH_app (l k:List (Int × Int)):prH (l++k)=prH l++prH k:=by simp [prH]
theorem prH_at {l:List (Int × Int)}:∀{j:Nat} {p:Int × Int},l[j]? = some p→(prH l)[2*j]? = some (.int .u16 p.1)∧(prH l)[2*j+1]? = some (.int .u32 p.2):=by
 induction l with
 | nil=>intro j p h;simp at h
 | cons q l ih =>
   intro j p h
   cases j with
   | zero=>simp at h;subst h;exact ⟨rfl,rfl⟩
   | succ j =>
     simp at h
     have:=ih h
     have e:prH (q::l) = .int .u16 q.1 :: .int .u32 q.2::prH l:=rfl
     rw [e,show 2*(j+1)=2*j+1+1 by omega,List.getElem?_cons_succ,List.getElem?_cons_succ]
     exact ⟨this.1,by rw [List.getElem?_cons_succ,List.getElem?_cons_succ];exact this.2⟩
theorem infoHs:(Tryz.prog.info? 147).map (·.size)=some 2:=by kernel_rfl
theorem wSettings (h:WS K w bF cl bW cur out wb al) {v:Value} {l:List (Int × Int)} (hr:Row w 147 2 v l.length (prH l)) (hK:∀g,v.ownBlock=some g→K g) (hl:l.length≤1000) (hb:∀p∈l,0≤p.1∧p.1<65536∧0≤p.2∧p.2<4294967296) (ho:out.length≤50000000) :
   Calls Tryz.prog 71 #[.pointer (some ⟨bF,0,none⟩),v] w (Sent K w bF cl bW (out++frB 4 0 0 (Pl.wSet l))):=by
 obtain ⟨va,vc,rfl,hvc,hvm⟩:=own_shape hr
 have H:=Lib.hid h
 have HR:=Lib.hid hr
 have HK:=Lib.hid hK
 have HB:=Lib.hid hb
 clear h hr hK hb
 go_enter Tryz.func71,Tryz.ntmps71
 go_wp2_with (go_at_call 99;refine (startWrite_any H.out 4 0 0 (by omega) (by omega)).mono ?_;rintro e w1 ⟨rfl,k1,wb1,al1,h1⟩)
 have H1:=Lib.hid h1
 have K1:=Lib.hid k1
 clear h1 k1
 go_loopw [11] (fun i wr => ∃k:Nat,k≤l.length∧i = .int .i64 k∧Kept K w wr ∧ ∃wb al,WS K wr bF cl bW (hdr0 4 0 0++Pl.wSet (l.take k)) out wb al) (fun i _=>l.length-(intOf i).toNat)
 case atStart=>exact ⟨0,Nat.zero_le _,rfl,K1.out,wb1,al1,by rw [List.take_zero];exact H1.out⟩
 case round =>
   obtain ⟨k,hk,rfl,hkk,wb2,al2,h2⟩:=hrel
   have hcl:(hdr0 4 0 0++Pl.wSet (l.take k)).length≤7000:=by rw [List.length_append,Pl.wSet_len,List.length_take];simp [hdr0];omega
   have hcl9:9≤(hdr0 4 0 0++Pl.wSet (l.take k)).length:=by rw [List.length_append];simp [hdr0]
   by_cases hlt:k<l.length
   · obtain ⟨e1,e2⟩:=prH_at (List.getElem?_eq_getElem hlt)
     have hlk:l.take (k+1)=l.take k ++ [l[k]]:=List.take_succ_eq_append_getElem hlt
     obtain ⟨b0,b1,b2,b3⟩:=HB.out _ (List.getElem_mem hlt)
     have hr2:=own_kept HR.out hkk HK.out
     obtain ⟨g,c,ev,c1⟩:=own_cell hr2 _ _ e1
     obtain ⟨g',c',ev',c2⟩:=own_cell hr2 _ _ e2
     cases ev
     cases ev'
     have HLK:=Lib.hid hlk
     have HKK:=Lib.hid hkk
     clear e1 e2 hr2 hlk hkk
     generalize l[k]=p at *
     obtain ⟨pa,pb⟩:=p
     simp only at b0 b1 b2 b3 c1 c2
     obtain ⟨C,hC⟩:∃C,hdr0 4 0 0++Pl.wSet (l.take k)=C:=⟨_,rfl⟩
     rw [hC] at h2 hcl hcl9
     have HC:=Lib.hid hC
     clear hC
     have hbx:=h2.box (.cells #[.int .u16 pa,.int .u32 pb] 147)
     have hBX:(wr.alloc (.cells #[.int .u16 pa,.int .u32 pb] 147)).heap[wr.heap.size]? = some (.cells #[.int .u16 pa,.int .u32 pb] 147 (0,0)):=blk_new wr _
     have HBX:=Lib.hid hBX
     have HX:=Lib.hid hbx
     clear hBX hbx h2
     go_wp2_with (first
       | (refine wpList_load_at rfl _ _ rfl g _ rfl #[.int .u16 pa,.int .u32 pb] (two_at (o:=0) (k:=k) (by rw [Nat.zero_add];exact c1) (by rw [Nat.zero_add];exact c2) (by simp;omega)) Tryz.underlying147 infoHs ?_)
       | (go_at_call 104;refine (writeUint16_any HX.out pa b0 b1 (by omega)).mono ?_;rintro e w3 ⟨rfl,k3,wb3,al3,h3⟩;have B3:=k3.at (.inr rfl) HBX.out;have q1:=blk_cell B3 1)
       | (go_at_call 102;refine (writeUint32_any h3 pb b2 b3 (by rw [List.length_append];simp [be16];omega)).mono ?_;rintro e w4 ⟨rfl,k4,wb4,al4,h4⟩))
     go_roundw
     case rel=>exact ⟨k+1,by omega,by go_num,HKK.out.trans (((Kept.refl K wr).alloc _).trans ((k3.trans k4).mono fun k h _ => .inl h)),wb4,al4,by rw [HLK.out,wSet_snoc,←List.append_assoc,HC.out,←List.append_assoc];exact h4.narrow fun k h => .inl h⟩
     case measure=>simp [intOf];omega
   · obtain rfl:k=l.length:=by omega
     rw [List.take_length] at h2 hcl hcl9
     go_wp2_with (go_at_call 96;refine (endWrite_any h2 hcl9 (by omega) (by omega)).mono ?_;rintro e w4 ⟨rfl,k4,wb4,al4,h4⟩)
     go_ret
     exact Sent.fin 4 0 0 _ (hkk.trans k4) h4 rfl (by rw [Pl.wSet_len];omega)
end Go.Proofs.YtfdlbjibninakaaGreatDoor

namespace Go.Proofs.YtfdlbjibninakaaGreatDoor
open Go.RowKit
structure RS (w:World) (bF:Nat) (vS vP vB:Value):Prop where
 al:w.cell? ⟨bF,21,none⟩=some (.bool false)
 es:w.cell? ⟨4,0,none⟩=some (.iface 251 vS)
 ep:w.cell? ⟨7,0,none⟩=some (.iface 251 vP)
 eb:w.cell? ⟨8,0,none⟩=some (.iface 251 vB)
section
variable {w w' : World} {bF : Nat} {vS vP vB : Value}
theorem RS.alloc (h:RS w bF vS vP vB) (o:Obj):RS (w.alloc o) bF vS vP vB:=⟨cell_alloc h.al o,cell_alloc h.es o,cell_alloc h.ep o,cell_alloc h.eb o⟩
theorem RS.drew (h:RS w bF vS vP vB):RS w.drew bF vS vP vB:=⟨h.al,h.es,h.ep,h.eb⟩
theorem RS.below (h:RS w bF vS vP vB) (hb:Below w.heap.size w w'):RS w' bF vS vP vB:=⟨cell_below h.al hb,cell_below h.es hb,cell_below h.ep hb,cell_below h.eb hb⟩
end
variable {w : World} {bF : Nat} {vS vP vB : Value}
end Go.Proofs.YtfdlbjibninakaaGreatDoor

namespace Go.Proofs.YtfdlbjibninakaaGreatDoor
open Go.RowKit
variable {w : World} {bF : Nat} {vS vP vB : Value}
theorem rd_cell {k:IntKind} {w:World} {v:Value} {l:List Int} (h:RdI k w v l) (hl:0<l.length) :
   ∃b o c,v = .slice (some ⟨b,o,none⟩) l.length c∧l.length≤c∧c≤maxLen ∧ ∀j x,l[j]? = some x→w.cell? ⟨b,o+j,none⟩=some (.int k x):=by
 obtain ⟨a,c,rfl,h1,h2,h3⟩:=h
 obtain ⟨b,o,rfl,-⟩:=h3 0 l[0] (by simp [hl])
 refine ⟨b,o,c,rfl,h1,h2,fun j x hj => ?_⟩
 obtain ⟨b',o',e,hc⟩:=h3 j x hj
 cases e
 exact hc
end Go.Proofs.YtfdlbjibninakaaGreatDoor

namespace Go.Proofs.YtfdlbjibninakaaGreatDoor
set_option maxRecDepth 100000
set_option maxHeartbeats 8000000
open Go.RowKit
theorem own_some {w:World} {e n c m:Nat} {a:Option Addr} {l:List Int} (h:Row w e 1 (.slice a n c) m (bv l)) (hm:0<m):∃b,a=some ⟨b,0,none⟩:=by
 have hl:l.length=m:=by have:=h.1;simpa using this
 obtain ⟨g,c',e',-⟩:=own_cell h 0 (.int .u8 (l[0]'(by omega))) (by simp [bv,hl,hm])
 cases e'
 exact ⟨g,rfl⟩
variable {K : Nat → Prop} {w : World} {bF cl bW : Nat} {cur out : List Int} {wb al : Value}
theorem startData_nopad (h:WS K w bF cl bW cur out wb al) (s:Int) (h0:0<s) (h1:s≤2147483647) (ends:Bool) (ho:out.length≤50000000) {dv:Value} {d:List Int} (hd:RdB w dv d) (hK:inK K dv) (hdl:d.length≤100000) :
   Calls Tryz.prog 95 #[.pointer (some ⟨bF,0,none⟩),.int .u32 s,.bool ends,dv,.slice none 0 0] w (Wrote K w bF cl bW (hdr0 0 (if ends then 1 else 0) s++d) out .nilIface):=by
 have hv:=vs_yes h0 h1
 have o1:bits .or .u8 0 1=1:=by decide
 have o8:bits .or .u8 0 8=8:=by decide
 have o9:bits .or .u8 1 8=9:=by decide
 obtain ⟨C,hC,hCl,hsw⟩:=startWrite_let h 0 (if ends then 1 else 0) s (by omega) (by omega)
 have HC:=Lib.hid hC
 have hC9:C.length≤9:=by omega
 have hC0:9≤C.length:=by omega
 have SW:=Lib.hid hsw
 have HD:=Lib.hid hd
 obtain ⟨da,dc,rfl,-,-⟩:=id hd
 clear hC hCl hsw hd
 cases ends
 all_goals
   simp only [if_true,Bool.false_eq_true,if_false] at SW HC ⊢
   go_enter Tryz.func95,Tryz.ntmps95
   go_wp2_with (first
     | (go_at_call 97;refine (validStreamID_any s _ (by omega) (by omega)).mono ?_;rw [hv];rintro e w' ⟨rfl,rfl⟩)
     | (go_at_call 99;((with_reducible refine (SW.out _ _ _ h).mono ?_);rintro e w1 ⟨rfl,k1,wb1,al1,h1⟩;obtain ⟨a1,c1,rfl,hc1,hm1⟩:=own_shape h1.own;have f1:=blk_free h1.F 20;have e1:w1.cell? ⟨bF,20,none⟩=some (.slice a1 C.length c1):=blk_cell h1.F 20))
     | (at_builtin;refine wpList_app E5 rfl _ _ rfl (.slice a1 C.length c1) C.length (bv C) rfl h1.own d.length (bv d) (src_of_rd (HD.out.kept k1 hK)) (by omega) (by unfold maxLen;omega) ?_;intro a3 c3 w3 own3 g3 t3;have F3:=blk_grown h1.F g3 h1.neF;have q3:w3.cell? ⟨bF,20,none⟩=some (.slice a1 C.length c1):=blk_cell F3 20;have z3:=blk_free F3 20;clear F3;have P3:=Lib.hid (h1.put (cur':=C++d) g3 (by simpa [bv] using own3) t3);have hc3:C.length+d.length≤c3:=(by obtain ⟨_,_,e,h,-⟩:=own_shape own3;simp at e;obtain ⟨rfl,rfl⟩:=e;exact h);obtain ⟨b3,rfl⟩:=own_some P3.out.1.own (by simp;omega);clear own3 g3 t3))
   all_goals (try simp only [Sem.run_pure,Result.andThen_ok])
   go_wp2
   go_ret
   have P4:=P3.out.1.put (w1:=w3.setCell ⟨bF,20,none⟩ (.slice (some ⟨b3,0,none⟩) (C.length+d.length) c3)) (cur':=C++d) (v':=.slice (some ⟨b3,0,none⟩) (C.length+d.length) c3) ⟨rfl,rfl,rfl,Nat.le_refl _,fun _ _ _=>rfl⟩ P3.out.1.own (.inl rfl)
   exact ⟨rfl,k1.trans (P3.out.2.trans P4.2),_,_,by rw [←HC.out];exact P4.1⟩
theorem startData_padded (h:WS K w bF cl bW cur out wb al) (s:Int) (h0:0<s) (h1:s≤2147483647) (ends:Bool) (ho:out.length≤50000000) {dv:Value} {d:List Int} (hd:RdB w dv d) (hK:inK K dv) (hdl:d.length≤100000) {pa:Addr} {pc:Nat} {pad:List Int} (hp:RdB w (.slice (some pa) pad.length pc) pad) (hpK:inK K (.slice (some pa) pad.length pc)) (hpl:pad.length≤255) (hpz:∀x∈pad,x=0) :
   Calls Tryz.prog 95 #[.pointer (some ⟨bF,0,none⟩),.int .u32 s,.bool ends,dv,.slice (some pa) pad.length pc] w (Wrote K w bF cl bW (hdr0 0 (if ends then 9 else 8) s++((pad.length:Int)::(d++pad))) out .nilIface):=by
 have hv:=vs_yes h0 h1
 have o1:bits .or .u8 0 1=1:=by decide
 have o8:bits .or .u8 0 8=8:=by decide
 have o9:bits .or .u8 1 8=9:=by decide
 obtain ⟨C,hC,hCl,hsw⟩:=startWrite_let h 0 (if ends then 9 else 8) s (by omega) (by omega)
 have HC:=Lib.hid hC
 have hC9:C.length≤9:=by omega
 have hC0:9≤C.length:=by omega
 have SW:=Lib.hid hsw
 have HD:=Lib.hid hd
 obtain ⟨da,dc,rfl,-,-⟩:=id hd
 clear hC hCl hsw hd
 have hw8:=wrap_u8 (n:=pad.length) (by omega) (by omega)
 have c21:w.cell? ⟨bF,21,none⟩=some (.bool false):=blk_cell h.F 21
 have HP:=Lib.hid hp
 have L2:=Lib.hid (show (C ++ [(pad.length:Int)]).length=C.length+1 by rw [List.length_append];rfl)
 have L3:=Lib.hid (show (C ++ [(pad.length:Int)]++d).length=C.length+1+d.length by rw [List.length_append,List.length_append];rfl)
 have L4:=Lib.hid (show (C ++ [(pad.length:Int)]++d++pad).length=C.length+1+d.length+pad.length by rw [List.length_append,List.length_append,List.length_append];rfl)
 have HZ:=Lib.hid hpz
 clear hpz
 by_cases hz:pad.length=0
 · have hn0:¬(0:Int)<pad.length:=by omega
   clear hp hz
   cases ends
   all_goals
     simp only [if_true,Bool.false_eq_true,if_false] at SW HC ⊢
     go_enter Tryz.func95,Tryz.ntmps95
     go_wp2_with (first
       | (go_at_call 97;refine (validStreamID_any s _ (by omega) (by omega)).mono ?_;rw [hv];rintro e w' ⟨rfl,rfl⟩)
       | (go_at_call 99;((with_reducible refine (SW.out _ _ _ h).mono ?_);rintro e w1 ⟨rfl,k1,wb1,al1,h1⟩;obtain ⟨a1,c1,rfl,hc1,hm1⟩:=own_shape h1.own;have f1:=blk_free h1.F 20;have e1:w1.cell? ⟨bF,20,none⟩=some (.slice a1 C.length c1):=blk_cell h1.F 20))
       | (at_builtin;refine wpList_app E5 rfl _ _ rfl (.slice a1 C.length c1) C.length (bv C) rfl (own_alloc h1.own _) 1 [.int .u8 pad.length] (src_of_block Tryz.underlying22 (blk_new w1 _) rfl (by simp [Value.oneCell'])) (by omega) (by unfold maxLen;omega) ?_;intro a2 c2 w2 own2 g2 t2;have F2:=blk_grown (blk_alloc h1.F) g2 h1.neF;have q2:w2.cell? ⟨bF,20,none⟩=some (.slice a1 C.length c1):=blk_cell F2 20;have z2:=blk_free F2 20;clear F2;have P2:=Lib.hid ((h1.alloc _).put (cur':=C ++ [(pad.length:Int)]) g2 (by rw [L2.out,bv_append];exact own2) t2);clear own2 g2 t2)
       | (at_builtin;refine wpList_app E5 rfl _ _ rfl (.slice a2 (C.length+1) c2) (C.length+1) (bv (C ++ [(pad.length:Int)])) rfl (by have h:=P2.out.1.own;rw [L2.out] at h;exact h) d.length (bv d) (src_of_rd (HD.out.kept (k1.trans (((Kept.refl K w1).alloc _).trans P2.out.2)) hK)) (by omega) (by unfold maxLen;omega) ?_;intro a3 c3 w3 own3 g3 t3;have F3:=blk_grown P2.out.1.F g3 P2.out.1.neF;have q3:w3.cell? ⟨bF,20,none⟩=some (.slice a2 (C.length+1) c2):=blk_cell F3 20;have z3:=blk_free F3 20;clear F3;have P3:=Lib.hid (P2.out.1.put (cur':=C ++ [(pad.length:Int)]++d) g3 (by rw [L3.out,bv_append];exact own3) t3);clear own3 g3 t3)
       | (at_builtin;refine wpList_app E5 rfl _ _ rfl (.slice a3 (C.length+1+d.length) c3) (C.length+1+d.length) (bv (C ++ [(pad.length:Int)]++d)) rfl (by have h:=P3.out.1.own;rw [L3.out] at h;exact h) pad.length (bv pad) (src_of_rd (HP.out.kept (k1.trans ((((Kept.refl K w1).alloc _).trans P2.out.2).trans P3.out.2)) hpK)) (by omega) (by unfold maxLen;omega) ?_;intro a4 c4 w4 own4 g4 t4;have F4:=blk_grown P3.out.1.F g4 P3.out.1.neF;have q4:w4.cell? ⟨bF,20,none⟩=some (.slice a3 (C.length+1+d.length) c3):=blk_cell F4 20;have z4:=blk_free F4 20;clear F4;have P4:=Lib.hid (P3.out.1.put (cur':=C ++ [(pad.length:Int)]++d++pad) g4 (by rw [L4.out,bv_append];exact own4) t4);clear own4 g4 t4))
     go_ret
     exact ⟨rfl,k1.trans (((((Kept.refl K w1).alloc _).trans P2.out.2).trans P3.out.2).trans P4.out.2),_,_,by rw [←HC.out];simpa using P4.out.1⟩
 · obtain ⟨b,o,c,e,hc1,hc2,hcell⟩:=rd_cell hp (by omega)
   cases e
   have HCL:=Lib.hid hcell
   clear hp hcell
   cases ends
   all_goals
     simp only [if_true,Bool.false_eq_true,if_false] at SW HC ⊢
     go_enter Tryz.func95,Tryz.ntmps95
     go_wp2_with (go_at_call 97;refine (validStreamID_any s _ (by omega) (by omega)).mono ?_;rw [hv];rintro e w' ⟨rfl,rfl⟩)
     go_loopw [39] (fun i wr => ∃k:Nat,k≤pad.length∧i = .int .i64 k∧w=wr) (fun i _=>pad.length-(intOf i).toNat)
     case atStart=>exact ⟨0,Nat.zero_le _,rfl,rfl⟩
     case round =>
       obtain ⟨k,hk,rfl,rfl⟩:=hrel
       by_cases hlt:k<pad.length
       · have hx:=HCL.out k pad[k] (by simp [hlt])
         rw [HZ.out _ (List.getElem_mem hlt)] at hx
         go_wp2_with fail
         go_roundw
         case rel=>exact ⟨k+1,by omega,by go_num,trivial⟩
         case measure=>simp [intOf];omega
       · clear hk
         go_wp2_with (first
           | (go_at_call 99;((with_reducible refine (SW.out _ _ _ h).mono ?_);rintro e w1 ⟨rfl,k1,wb1,al1,h1⟩;obtain ⟨a1,c1,rfl,hc1,hm1⟩:=own_shape h1.own;have f1:=blk_free h1.F 20;have e1:w1.cell? ⟨bF,20,none⟩=some (.slice a1 C.length c1):=blk_cell h1.F 20))
           | (at_builtin;refine wpList_app E5 rfl _ _ rfl (.slice a1 C.length c1) C.length (bv C) rfl (own_alloc h1.own _) 1 [.int .u8 pad.length] (src_of_block Tryz.underlying22 (blk_new w1 _) rfl (by simp [Value.oneCell'])) (by omega) (by unfold maxLen;omega) ?_;intro a2 c2 w2 own2 g2 t2;have F2:=blk_grown (blk_alloc h1.F) g2 h1.neF;have q2:w2.cell? ⟨bF,20,none⟩=some (.slice a1 C.length c1):=blk_cell F2 20;have z2:=blk_free F2 20;clear F2;have P2:=Lib.hid ((h1.alloc _).put (cur':=C ++ [(pad.length:Int)]) g2 (by rw [L2.out,bv_append];exact own2) t2);clear own2 g2 t2)
           | (at_builtin;refine wpList_app E5 rfl _ _ rfl (.slice a2 (C.length+1) c2) (C.length+1) (bv (C ++ [(pad.length:Int)])) rfl (by have h:=P2.out.1.own;rw [L2.out] at h;exact h) d.length (bv d) (src_of_rd (HD.out.kept (k1.trans (((Kept.refl K w1).alloc _).trans P2.out.2)) hK)) (by omega) (by unfold maxLen;omega) ?_;intro a3 c3 w3 own3 g3 t3;have F3:=blk_grown P2.out.1.F g3 P2.out.1.neF;have q3:w3.cell? ⟨bF,20,none⟩=some (.slice a2 (C.length+1) c2):=blk_cell F3 20;have z3:=blk_free F3 20;clear F3;have P3:=Lib.hid (P2.out.1.put (cur':=C ++ [(pad.length:Int)]++d) g3 (by rw [L3.out,bv_append];exact own3) t3);clear own3 g3 t3)
           | (at_builtin;refine wpList_app E5 rfl _ _ rfl (.slice a3 (C.length+1+d.length) c3) (C.length+1+d.length) (bv (C ++ [(pad.length:Int)]++d)) rfl (by have h:=P3.out.1.own;rw [L3.out] at h;exact h) pad.length (bv pad) (src_of_rd (HP.out.kept (k1.trans ((((Kept.refl K w1).alloc _).trans P2.out.2).trans P3.out.2)) hpK)) (by omega) (by unfold maxLen;omega) ?_;intro a4 c4 w4 own4 g4 t4;have F4:=blk_grown P3.out.1.F g4 P3.out.1.neF;have q4:w4.cell? ⟨bF,20,none⟩=some (.slice a3 (C.length+1+d.length) c3):=blk_cell F4 20;have z4:=blk_free F4 20;clear F4;have P4:=Lib.hid (P3.out.1.put (cur':=C ++ [(pad.length:Int)]++d++pad) g4 (by rw [L4.out,bv_append];exact own4) t4);clear own4 g4 t4))
         go_ret
         exact ⟨rfl,k1.trans (((((Kept.refl K w1).alloc _).trans P2.out.2).trans P3.out.2).trans P4.out.2),_,_,by rw [←HC.out];simpa using P4.out.1⟩
end Go.Proofs.YtfdlbjibninakaaGreatDoor

namespace Go.Proofs.YtfdlbjibninakaaGreatDoor
set_option maxRecDepth 10000
set_option maxHeartbeats 2000000
open Go.RowKit
variable {K : Nat → Prop} {w : World} {bF cl bW : Nat} {cur out : List Int} {wb al : Value}
theorem wDataP {s fl:Int} {ends:Bool} {dv pv:Value} {pay:List Int} (hst:Calls Tryz.prog 95 #[.pointer (some ⟨bF,0,none⟩),.int .u32 s,.bool ends,dv,pv] w (Wrote K w bF cl bW (hdr0 0 fl s++pay) out .nilIface)) (hl:pay.length≤200000) (ho:out.length≤50000000) :
   Calls Tryz.prog 64 #[.pointer (some ⟨bF,0,none⟩),.int .u32 s,.bool ends,dv,pv] w (Sent K w bF cl bW (out++frB 0 fl s pay)):=by
 obtain ⟨C,hC⟩:∃C,hdr0 0 fl s++pay=C:=⟨_,rfl⟩
 have hCl:C.length=9+pay.length:=by rw [←hC,List.length_append];rfl
 rw [hC] at hst
 have HC:=Lib.hid hC
 have HL:=Lib.hid hCl
 have HST:=Lib.hid hst
 clear hC hCl hst
 go_enter Tryz.func64,Tryz.ntmps64
 go_wp2_with (first
   | (go_at_call 95;refine HST.out.mono ?_;rintro e w1 ⟨rfl,k1,wb1,al1,h1⟩)
   | (go_at_call 96;refine (endWrite_any h1 (by have:=HL.out;omega) (by have:=HL.out;omega) (by omega)).mono ?_;rintro e w3 ⟨rfl,k3,wb3,al3,h3⟩))
 go_ret
 exact Sent.fin 0 fl s pay (k1.trans k3) h3 HC.out.symm (by omega)
theorem wData {s fl:Int} {ends:Bool} {dv:Value} {pay:List Int} (hst:Calls Tryz.prog 95 #[.pointer (some ⟨bF,0,none⟩),.int .u32 s,.bool ends,dv,.slice none 0 0] w (Wrote K w bF cl bW (hdr0 0 fl s++pay) out .nilIface)) (hl:pay.length≤200000) (ho:out.length≤50000000) :
   Calls Tryz.prog 65 #[.pointer (some ⟨bF,0,none⟩),.int .u32 s,.bool ends,dv] w (Sent K w bF cl bW (out++frB 0 fl s pay)):=by
 have hp:=wDataP hst hl ho
 have HP:=Lib.hid hp
 clear hp hst
 go_enter Tryz.func65,Tryz.ntmps65
 go_wp2_with (go_at_call 64;refine HP.out.mono ?_;rintro e w1 ⟨rfl,k1,h1⟩)
 go_ret
 exact ⟨rfl,k1,h1⟩
end Go.Proofs.YtfdlbjibninakaaGreatDoor

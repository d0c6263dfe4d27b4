/- Reading: io.ReadAtLeast and io.ReadFull out of the thin package's reader, into a row of bytes. -/
import Derived.Test.YtfdlbjibninakaaGreatDoorRd
import Derived.Test.YtfdlbjibninakaaGreatDoorErr2
import Derived.Deep.RegionLaw
import Derived.Outline
set_option linter.unusedVariables false
set_option linter.unusedSimpArgs false
namespace Go.Proofs.YtfdlbjibninakaaGreatDoor
set_option maxRecDepth 10000
set_option maxHeartbeats 4000000
open Go.RowKit
theorem method_read (x:Addr) (w:World):(method 391 69 (.pointer (some x)) "Read").run Tryz.prog w = .ok (147,.pointer (some x)) w:=by kernel_rfl
theorem nilAhead_read (x:Addr) (w:World):(nilAhead 391 69 (.pointer (some x)) "Read").run Tryz.prog w = .ok (some false) w:=by kernel_rfl
theorem inK_true (v:Value):inK (fun _=>True) v:=by
 cases v with
 | slice a n c=>cases a<;>simp [inK]
 | _=>trivial
def RfErr (aE aU:Addr) (n:Nat) (L:List Int) (c:Nat) (ev:Value):Prop:=
 c=min n L.length∧ev=if n≤L.length then .nilIface else if L.length=0 then .iface 251 (.pointer (some aE)) else .iface 251 (.pointer (some aU))
def ReadFull (aE aU:Addr) (w:World) (bR:Nat) (rest pcs:Value) (at':Nat) (L ps:List Int) (g off n:Nat) (cs:Array Value) (t:TypeId) (e:Ending) (w':World):Prop:=
 ∃(at'':Nat) (rest':Value) (cs':Array Value) (c:Nat) (ev:Value),e = .returned (.tuple #[.int .i64 (c:Int),ev])∧RfErr aE aU n L c ev ∧
   RdS w' bR rest' pcs at'' (L.drop n) ps∧at''+(L.drop n).length≤at'+L.length∧w'.heap[g]? = some (.cells cs' t (0,0))∧Filled cs off (L.take n) cs'∧Kept (fun b=>b≠bR∧b≠g) w w' ∧ ∀K,inK K rest→inK K rest'
def RfHead (aE:Addr) (w:World) (bR:Nat) (rest pcs:Value) (at':Nat) (L ps:List Int) (g off n:Nat) (cs:Array Value) (t:TypeId) (k:Nat) (er:Value) (w':World):Prop:=
 k≤n∧k≤L.length∧(er = .nilIface∨er = .iface 251 (.pointer (some aE))∧k=L.length∧k<n) ∧ ∃(at'':Nat) (rest':Value) (cs':Array Value),
   RdS w' bR rest' pcs at'' (L.drop k) ps∧at''+(L.drop k).length≤at'+L.length∧w'.heap[g]? = some (.cells cs' t (0,0))∧Filled cs off (L.take k) cs'∧Kept (fun b=>b≠bR∧b≠g) w w' ∧ ∀K,inK K rest→inK K rest'
theorem readAtLeast_any {B:Nat} {aE aU aT:Addr} {w:World} (hV:GV B w aE aU aT) {bR:Nat} {rest pcs:Value} {at':Nat} {L ps:List Int} (h:RdS w bR rest pcs at' L ps) (hlim:at'+L.length≤1000000000000) (g off n cap:Nat) (cs:Array Value) (t:TypeId) (hg:w.heap[g]? = some (.cells cs t (0,0))) (hfit:off+n≤cs.size)
   (hn:0<n) (hnc:n≤cap) (_hcm:cap≤maxLen) (hgR:g≠bR) (hKr:inK (fun b=>b≠bR∧b≠g) rest) (hKp:inK (fun b=>b≠bR∧b≠g) pcs) (hBR:B≤bR) (hBg:B≤g) :
   Calls Tryz.prog 108 #[.iface 69 (.pointer (some ⟨bR,0,none⟩)),.slice (some ⟨g,off,none⟩) n cap,.int .i64 (n:Int)] w (ReadFull aE aU w bR rest pcs at' L ps g off n cs t):=by
 unfold maxLen at _hcm
 go_enter Tryz.func108,Tryz.ntmps108
 go_wp2
 go_loopw [6,7] (fun c er wr => ∃k:Nat,c = .int .i64 (k:Int)∧RfHead aE w bR rest pcs at' L ps g off n cs t k er wr) (fun c er _=>(n-(intOf c).toNat)*2+(match er with | .nilIface=>1|_=>0))
 case atStart=>exact ⟨0,rfl,Nat.zero_le _,Nat.zero_le _,.inl rfl,at',rest,cs,h,Nat.le_refl _,hg,Filled.nil cs off,Kept.refl _ _,fun _ h=>h⟩
 case round =>
   obtain ⟨k,rfl,hk,hkL,hx,at2,rest2,cs2,hS,hat,hg2,hfil,hkp,hin⟩:=hrel
   have hmr:=fun w=>method_read ⟨bR,0,none⟩ w
   have hna:=fun w=>nilAhead_read ⟨bR,0,none⟩ w
   have hEL:B≤w.heap.size:=by have:=lt_of_block hg;omega
   have hV2:GV B wr aE aU aT:=hV.kept hkp (fun k hk=>⟨by omega,by omega⟩)
   have hlen:(L.drop k).length=L.length-k:=List.length_drop
   rcases hx with rfl|⟨rfl,hx,hx2⟩
   · by_cases hkn:k=n
     · subst hkn
       go_wp2
       go_ret2
       exact ⟨at2,rest2,cs2,k,.nilIface,rfl,⟨by omega,by rw [if_pos hkL]⟩,hS,hat,hg2,hfil,hkp,hin⟩
     · have hkn':k<n:=by omega
       have hkc:¬cap=k:=by omega
       by_cases hkE:k=L.length
       · subst hkE
         have hS':=hS
         rw [List.drop_eq_nil_of_le (by omega)] at hS'
         go_wp2
         go_region_with (go_at_call 147;refine (read_end (w:=wr.drew) ⟨hS'.R,hS'.rest,hS'.pcs,hS'.lim⟩ hV2.e _).mono ?_;rintro e w' ⟨rfl,nq,rfl⟩)
         go_wp2
         have kd:Kept (fun b=>b≠bR∧b≠g) w (wr.drewN (1+nq)):=hkp.drawn _
         have kd2:Kept (fun _=>True) wr (wr.drewN (1+nq)):=(Kept.refl _ wr).drawn _
         go_roundw
         case rel=>exact ⟨L.length,by simp,hk,hkL,.inr ⟨rfl,rfl,hkn'⟩,at2,rest2,cs2,⟨kd2.at trivial hS.R,hS.rest.kept kd2 (inK_true _),hS.pcs.kept kd2 (inK_true _),hS.lim⟩,hat,kd2.at trivial hg2,hfil,kd,hin⟩
         case measure=>simp [intOf]
       · have hS0:0<(L.drop k).length:=by omega
         go_wp2
         go_region_with (go_at_call 147;refine (read_some (w:=wr.drew) ⟨hS.R,hS.rest,hS.pcs,hS.lim⟩ hS0 g (off+k) (n-k) (cap-k) cs2 t hg2 (by rw [hfil.size];omega) (by omega) (by omega) hgR (hin _ hKr) hKp).mono ?_;rintro e w' ⟨m,at3,rest3,cs3,rfl,hm1,hm2,hm3,hR3,hrd3,hps3,hat3,hg3,hf3,hk3,hin3⟩)
         go_wp2
         have hdd:(L.drop k).drop m=L.drop (k+m):=by rw [List.drop_drop]
         have htt:L.take k++(L.drop k).take m=L.take (k+m):=by rw [List.take_add]
         rw [hdd] at hrd3
         have hkl:(L.take k).length=k:=by rw [List.length_take];omega
         have hf4:=hfil.app hf3 (by rw [hkl])
         rw [htt] at hf4
         have hlen2:(L.drop (k+m)).length=L.length-(k+m):=List.length_drop
         have kk:Kept (fun b=>b≠bR∧b≠g) w w':=hkp.trans ((Kept.refl _ wr).drew.trans hk3)
         go_roundw
         case rel=>exact ⟨k+m,by simp,by omega,by omega,.inl rfl,at3,rest3,cs3,⟨hR3,hrd3,hps3,by omega⟩,by omega,hg3,hf4,kk,fun K h=>hin3 K (hin K h)⟩
         case measure=>simp [intOf];omega
   · have hE:=hV2.e
     have hU:=hV2.u
     have hq:=eql_same aE
     by_cases hk0:k=0
     · go_wp2
       go_ret2
       have hd:L.drop k=L.drop n:=by rw [List.drop_eq_nil_of_le (by omega),List.drop_eq_nil_of_le (by omega)]
       have ht:L.take k=L.take n:=by rw [List.take_of_length_le (by omega),List.take_of_length_le (by omega)]
       rw [hd] at hS hat
       rw [ht] at hfil
       exact ⟨at2,rest2,cs2,L.length,_,rfl,⟨by omega,by rw [if_neg (by omega),if_pos (by omega)];rfl⟩,hS,hat,hg2,hfil,hkp,hin⟩
     · go_wp2
       go_ret2
       have hd:L.drop k=L.drop n:=by rw [List.drop_eq_nil_of_le (by omega),List.drop_eq_nil_of_le (by omega)]
       have ht:L.take k=L.take n:=by rw [List.take_of_length_le (by omega),List.take_of_length_le (by omega)]
       rw [hd] at hS hat
       rw [ht] at hfil
       exact ⟨at2,rest2,cs2,L.length,_,rfl,⟨by omega,by rw [if_neg (by omega),if_neg (by omega)];rfl⟩,hS,hat,hg2,hfil,hkp,hin⟩
theorem readFull_any {B:Nat} {aE aU aT:Addr} {w:World} (hV:GV B w aE aU aT) {bR:Nat} {rest pcs:Value} {at':Nat} {L ps:List Int} (h:RdS w bR rest pcs at' L ps) (hlim:at'+L.length≤1000000000000) (g off n cap:Nat) (cs:Array Value) (t:TypeId) (hg:w.heap[g]? = some (.cells cs t (0,0))) (hfit:off+n≤cs.size)
   (hn:0<n) (hnc:n≤cap) (_hcm:cap≤maxLen) (hgR:g≠bR) (hKr:inK (fun b=>b≠bR∧b≠g) rest) (hKp:inK (fun b=>b≠bR∧b≠g) pcs) (hBR:B≤bR) (hBg:B≤g) :
   Calls Tryz.prog 82 #[.iface 69 (.pointer (some ⟨bR,0,none⟩)),.slice (some ⟨g,off,none⟩) n cap] w (ReadFull aE aU w bR rest pcs at' L ps g off n cs t):=by
 have hc:=readAtLeast_any hV h hlim g off n cap cs t hg hfit hn hnc _hcm hgR hKr hKp hBR hBg
 go_enter Tryz.func82,Tryz.ntmps82
 go_wp2_with (go_at_call 108;refine hc.mono ?_;rintro e w' ⟨at2,rest2,cs2,c,ev,rfl,h2⟩)
 go_ret2
 exact ⟨at2,rest2,cs2,c,ev,rfl,h2⟩
theorem readFull_none (r:Value) (w:World) (a:Option Addr) (c:Nat) :
   Calls Tryz.prog 82 #[r,.slice a 0 c] w fun e w'=>e = .returned (.tuple #[.int .i64 0,.nilIface])∧w=w':=by
 go_enter Tryz.func82,Tryz.ntmps82
 go_wp2
 go_loopw [6,7] (fun c er wr=>c = .int .i64 0∧er = .nilIface∧wr=w) (fun _ _ _=>0)
 case atStart=>exact ⟨rfl,rfl,rfl⟩
 case round =>
   obtain ⟨rfl,rfl,rfl⟩:=hrel
   go_wp2
   go_ret2
   exact ⟨rfl,rfl⟩
end Go.Proofs.YtfdlbjibninakaaGreatDoor

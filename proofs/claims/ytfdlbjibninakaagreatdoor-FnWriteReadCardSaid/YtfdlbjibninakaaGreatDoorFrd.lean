/- Reading: the framer's ReadFrame. -/
import Derived.Test.YtfdlbjibninakaaGreatDoorFg3
import Derived.Test.YtfdlbjibninakaaGreatDoorMl2
set_option linter.unusedVariables false
set_option linter.unusedSimpArgs false
namespace Go.Proofs.YtfdlbjibninakaaGreatDoor
set_option maxRecDepth 10000
set_option maxHeartbeats 4000000
open Go.RowKit
def FShape (f c s:Int):Prop:=f=0∧c=0∧s=0∨f=1∧c=0∧s=0∨f=2∧c=0∧s=0∨f=3∧c=0∧s=0∨f=4∧s=0∨f=5
structure QF (h:Hd) (n:Nat) (x:Fr):Prop where
 ty:x.ty=h.ty
 st:x.st=h.st
 fl:x.fl=h.fl
 ln:x.ln=h.ln
 w0:0≤x.wt
 w1:x.wt<256
 dl:x.data.length≤n
 sl:x.set.length*6≤n
def Sh (h:Hd) (n:Nat) (r:Rs):Prop:=(∃x,r = .ok x∧QF h n x) ∨ ∃f c s,r = .bad f c s∧FShape f c s∧f≠0
theorem z256:(0:Int)<256:=by decide
section
variable {h : Hd} {n : Nat}
theorem Sh.ok {x:Fr} (q:QF h n x):Sh h n (.ok x):=.inl ⟨x,rfl,q⟩
theorem Sh.b2:Sh h n (.bad 2 0 0):=.inr ⟨_,_,_,rfl,.inr (.inr (.inl ⟨rfl,rfl,rfl⟩)),by decide⟩
theorem Sh.b4 (c:Int):Sh h n (.bad 4 c 0):=.inr ⟨_,_,_,rfl,.inr (.inr (.inr (.inr (.inl ⟨rfl,rfl⟩)))),by decide⟩
theorem Sh.b5 (s:Int):Sh h n (.bad 5 1 s):=.inr ⟨_,_,_,rfl,.inr (.inr (.inr (.inr (.inr rfl)))),by decide⟩
theorem Sh.ite {c:Prop} [Decidable c] {a b:Rs} (ha:Sh h n a) (hb:Sh h n b):Sh h n (if c then a else b):=by split<;>assumption
theorem Sh.headEnd {x:Fr} (p:Int) (b:List Int) (q:QF h n x) (hb:b.length≤n):Sh h n (headEnd h x p b):=
 .ite (.b5 _) (.ok ⟨q.ty,q.st,q.fl,q.ln,q.w0,q.w1,Nat.le_trans (List.length_take_le' _ _) hb,q.sl⟩)
theorem Sh.headPrio (p:Int) (b:List Int) (hb:Bs b) (hl:b.length≤n):Sh h n (headPrio h p b):=
 .ite (.ite .b2 (.headEnd _ _ ⟨rfl,rfl,rfl,rfl,(hb.at 4).1,(hb.at 4).2,Nat.zero_le _,Nat.zero_le _⟩ (by simp;omega))) (.headEnd _ _ ⟨rfl,rfl,rfl,rfl,Int.le_refl 0,z256,Nat.zero_le _,Nat.zero_le _⟩ hl)
theorem Sh.pushEnd (p:Int) (b:List Int) (hl:b.length≤n):Sh h n (pushEnd h p b):=
 .ite .b2 (.ite (.b4 _) (.ok ⟨rfl,rfl,rfl,rfl,Int.le_refl 0,z256,Nat.le_trans (List.length_take_le' _ _) (by simp;omega),Nat.zero_le _⟩))
theorem pairs_len' (N:Nat) (b:List Int):(pairs N b).length=N:=by
 induction N generalizing b with
 | zero=>rfl
 | succ N ih=>simp [pairs,ih]
theorem Sh.parse (h:Hd) (b:List Int) (hb:Bs b):Sh h b.length (parse h b):=by
 unfold Go.Proofs.YtfdlbjibninakaaGreatDoor.parse
 refine .ite (.ite (.b4 _) (.ite ?_ (.ok ⟨rfl,rfl,rfl,rfl,Int.le_refl 0,z256,Nat.le_refl _,Nat.zero_le _⟩))) ?_
 · cases b with
   | nil=>exact .b2
   | cons p b=>exact .ite (.b4 _) (.ok ⟨rfl,rfl,rfl,rfl,Int.le_refl 0,z256,Nat.le_trans (List.length_take_le' _ _) (by simp),Nat.zero_le _⟩)
 refine .ite (.ite (.b4 _) (.ite ?_ (.headPrio _ _ hb (Nat.le_refl _)))) ?_
 · cases b with
   | nil=>exact .b2
   | cons p b=>exact .headPrio _ _ (fun x hx=>hb x (List.mem_cons_of_mem _ hx)) (by simp)
 refine .ite (.ite (.b4 _) (.ite (.b4 _) (.ok ⟨rfl,rfl,rfl,rfl,(hb.at 4).1,(hb.at 4).2,Nat.zero_le _,Nat.zero_le _⟩))) ?_
 refine .ite (.ite (.b4 _) (.ite (.b4 _) (.ok ⟨rfl,rfl,rfl,rfl,Int.le_refl 0,z256,Nat.zero_le _,Nat.zero_le _⟩))) ?_
 refine .ite (.ite (.b4 _) (.ite (.b4 _) (.ite (.b4 _) (.ite (.b4 _) (.ok ⟨rfl,rfl,rfl,rfl,Int.le_refl 0,z256,Nat.zero_le _,by show (pairs (b.length / 6) b).length*6≤b.length;rw [pairs_len'];omega⟩))))) ?_
 refine .ite (.ite (.b4 _) (.ite ?_ (.pushEnd _ _ (Nat.le_refl _)))) ?_
 · cases b with
   | nil=>exact .b2
   | cons p b=>exact .pushEnd _ _ (by simp)
 refine .ite (.ite (.b4 _) (.ite (.b4 _) (.ok ⟨rfl,rfl,rfl,rfl,Int.le_refl 0,z256,Nat.le_refl _,Nat.zero_le _⟩))) ?_
 refine .ite (.ite (.b4 _) (.ite (.b4 _) (.ok ⟨rfl,rfl,rfl,rfl,Int.le_refl 0,z256,by simp,Nat.zero_le _⟩))) ?_
 refine .ite (.ite (.b4 _) (.ite (.ite (.b4 _) (.b5 _)) (.ok ⟨rfl,rfl,rfl,rfl,Int.le_refl 0,z256,Nat.zero_le _,Nat.zero_le _⟩))) ?_
 refine .ite (.ite (.b4 _) (.ok ⟨rfl,rfl,rfl,rfl,Int.le_refl 0,z256,Nat.le_refl _,Nat.zero_le _⟩)) ?_
 refine .ite (.ite (.b4 _) (.ite (.b4 _) (.ite (.b4 _) (.ok ⟨rfl,rfl,rfl,rfl,Int.le_refl 0,z256,by simp,Nat.zero_le _⟩)))) ?_
 exact .ok ⟨rfl,rfl,rfl,rfl,Int.le_refl 0,z256,Nat.le_refl _,Nat.zero_le _⟩
end
theorem parse_nz (h:Hd) (b:List Int) (hb:Bs b) (c s:Int):parse h b ≠ .bad 0 c s:=by
 intro e
 rcases Sh.parse h b hb with ⟨x,hx,q⟩|⟨f',c',s',hx,hs,h0⟩
 · have ex:x=Fr.zero:=congrArg Rs.x (hx.symm.trans e)
   subst ex
   have ht:h.ty=0:=q.ty.symm
   have hs:h.st=0:=q.st.symm
   have e4:parse h b = .bad 4 1 0:=by
     unfold Go.Proofs.YtfdlbjibninakaaGreatDoor.parse parseData
     rw [if_pos ht,if_pos hs]
   exact absurd (show (4:Int)=0 from congrArg Rs.f (e4.symm.trans e)) (by decide)
 · exact h0 (congrArg Rs.f (hx.symm.trans e))
structure FrB (x:Fr):Prop where
 t0:0≤x.ty
 t1:x.ty<256
 f0:0≤x.fl
 f1:x.fl<256
 l0:0≤x.ln
 l1:x.ln≤16777215
 w0:0≤x.wt
 w1:x.wt<256
 dl:x.data.length≤16777215
 sl:x.set.length*6≤16777215
theorem QF.bounds {h:Hd} {n:Nat} {x:Fr} (q:QF h n x) (ht:0≤h.ty∧h.ty<256) (hf:0≤h.fl∧h.fl<256) (hl:0≤h.ln∧h.ln≤16777215) (hn:n≤16777215):FrB x:=
 ⟨by rw [q.ty];exact ht.1,by rw [q.ty];exact ht.2,by rw [q.fl];exact hf.1,by rw [q.fl];exact hf.2,by rw [q.ln];exact hl.1,by rw [q.ln];exact hl.2,q.w0,q.w1,Nat.le_trans q.dl hn,Nat.le_trans q.sl hn⟩
theorem Rs.bad_inj {f c s f' c' s':Int} (h:Rs.bad f c s = .bad f' c' s'):f=f'∧c=c'∧s=s':=by
 injection h with h1 h2 h3 h4
 exact ⟨h1,h2,h3⟩
theorem errV_if {f c s:Int} (h:FShape f c s) (h0:f≠0) (aE aU aT:Addr):∃T v,errV aE aU aT f c s = .iface T v:=by
 rcases h with ⟨rfl,rfl,rfl⟩|⟨rfl,rfl,rfl⟩|⟨rfl,rfl,rfl⟩|⟨rfl,rfl,rfl⟩|⟨rfl,rfl⟩|rfl
 · exact absurd rfl h0
 all_goals exact ⟨_,_,rfl⟩
section
variable {B : Nat} {K : Nat → Prop} {aE aU aT : Addr} {w w' : World} {bF cl bR : Nat} {m o o' : Int} {L L' ps : List Int} {cs cs' : Array Value} {lf rb rest rest' pcs : Value} {at' at'' : Nat}
def FrmEnd (B:Nat) (K:Nat→Prop) (aE aU aT:Addr) (w:World) (bF cl bR:Nat) (m:Int) (ps:List Int) (pcs:Value) (z:Rs × Int × List Int) (e:Ending) (w':World):Prop:=
 ∃fv ev,e = .returned (.tuple #[fv,ev])∧Kept K w w'∧(z.1.going=true → ∃cs' lf' rb' rest' at'',RSt B K aE aU aT w' bF cl bR m z.2.1 z.2.2 ps cs' lf' rb' rest' pcs at'') ∧
   ((∃x A,z.1 = .ok x∧ev = .nilIface∧FrV A w' fv x∧FrB x)∨(∃f c s,z.1 = .bad f c s∧f≠0∧FShape f c s∧fv = .nilIface∧ev=errV aE aU aT f c s))
def FBad (aE aU aT:Addr) (K:Nat→Prop) (w:World) (f c:Int) (e:Ending) (w':World):Prop:=e = .returned (.tuple #[.nilIface,errV aE aU aT f c 0])∧Kept K w w'
theorem frame_bad (f c:Int) (hs:FShape f c 0) (h0:f≠0) (hh:Calls Tryz.prog 46 #[.pointer (some ⟨bF,0,none⟩)] w (HBad aE aU aT K w f c)) (hK:∀k,K k→k<w.heap.size) :
   Calls Tryz.prog 28 #[.pointer (some ⟨bF,0,none⟩)] w (FBad aE aU aT K w f c):=by
 obtain ⟨T,v,hev⟩:=errV_if hs h0 aE aU aT
 unfold FBad
 unfold HBad at hh
 rw [hev] at hh ⊢
 go_enter Tryz.func28,Tryz.ntmps28
 go_wp2_with (first
   | (go_at_call 46;refine hh.mono ?_;rintro e w1 ⟨⟨b,ty,fl,ln,st,rfl⟩,hk⟩)
   | (refine wpList_store_blk rfl _ _ _ rfl w1.heap.size rfl _ _ rfl 113 (blk_new _ _) rfl infoH (by simp [Value.oneCell']) ?_;intro w2 hb2 hk2))
 go_ret2
 exact ⟨rfl,(hk.alloc _).trans (hk2.mono fun k h _=>Nat.ne_of_lt (Nat.lt_of_lt_of_le (hK k h) hk.size))⟩
theorem frame_ok {ty fl ln st:Int} {P:World→Prop} {R:Ending→World→Prop} (hh:Calls Tryz.prog 46 #[.pointer (some ⟨bF,0,none⟩)] w fun e w'=>e = .returned (.tuple #[hdV ty fl ln st,.nilIface])∧P w')
   (hf:∀w1 w2,P w1→Below w1.heap.size w1 w2→Calls Tryz.prog 47 #[.pointer (some ⟨bF,0,none⟩),hdV ty fl ln st] w2 (fun e w'=>(∃fv ev,e = .returned (.tuple #[fv,ev]))∧R e w')) :
   Calls Tryz.prog 28 #[.pointer (some ⟨bF,0,none⟩)] w R:=by
 unfold hdV at hh hf
 go_enter Tryz.func28,Tryz.ntmps28
 go_wp2_with (first
   | (go_at_call 46;refine hh.mono ?_;rintro e w1 ⟨rfl,hP⟩)
   | (refine wpList_store_blk rfl _ _ _ rfl w1.heap.size rfl _ _ rfl 113 (blk_new _ _) rfl infoH (by simp [Value.oneCell']) ?_;intro w2 hb2 hk2)
   | (refine wpList_load_blk rfl _ _ rfl w1.heap.size rfl _ 113 hb2 Tryz.underlying113 infoH ?_)
   | (go_at_call 47;refine (hf w1 w2 hP ((((Kept.refl (· < w1.heap.size) w1).alloc _).trans (hk2.mono fun k h _=>Nat.ne_of_lt h)).below (Nat.le_refl _))).mono ?_;rintro e w3 ⟨⟨fv,ev,rfl⟩,hR⟩))
 exact hR
theorem cutOff_eq (L:List Int):cutOff L = .bad (cutF L) 0 0:=by unfold cutOff cutF;split<;>rfl
theorem cutF_sh (L:List Int):FShape (cutF L) 0 0∧cutF L≠0:=by
 unfold cutF
 split
 · exact ⟨.inr (.inl ⟨rfl,rfl,rfl⟩),by decide⟩
 · exact ⟨.inr (.inr (.inl ⟨rfl,rfl,rfl⟩)),by decide⟩
theorem stop_going {f c s:Int} (h0:f≠0) (h5:f≠5):(Rs.bad f c s).going=false:=decide_eq_false (by simp [Rs.bad];omega)
theorem frame_any (h:RSt B K aE aU aT w bF cl bR m o L ps cs lf rb rest pcs at'):Calls Tryz.prog 28 #[.pointer (some ⟨bF,0,none⟩)] w (FrmEnd B K aE aU aT w bF cl bR m ps pcs (one m o L)):=by
 have bad:∀{f c:Int} {x:Int × List Int},FShape f c 0→f≠0→f≠5→Calls Tryz.prog 46 #[.pointer (some ⟨bF,0,none⟩)] w (HBad aE aU aT K w f c) →
     Calls Tryz.prog 28 #[.pointer (some ⟨bF,0,none⟩)] w (FrmEnd B K aE aU aT w bF cl bR m ps pcs (.bad f c 0,x)):=by
   intro f c x hs h0 h5 hh
   refine (frame_bad f c hs h0 hh h.lt).mono ?_
   rintro e w' ⟨rfl,hk⟩
   exact ⟨_,_,rfl,hk,fun hg=>by (rw [stop_going h0 h5] at hg;cases hg),.inr ⟨_,_,_,rfl,h0,hs,rfl,rfl⟩⟩
 by_cases h9:9≤L.length
 · have hln:=Pl.ln_bd (b:=L) h.bs
   by_cases hm:m<(hdOf L).ln
   · have e:one m o L=(.bad 3 0 0,o,L.drop 9):=by unfold one;rw [if_neg (by omega),if_pos hm]
     rw [e]
     exact bad (.inr (.inr (.inr (.inl ⟨rfl,rfl,rfl⟩)))) (by decide) (by decide) (hdr_large h h9 hm)
   · cases ho:ordBad o (hdOf L) with
     | true =>
       have e:one m o L=(.bad 4 1 0,o,L.drop 9):=by unfold one;rw [if_neg (by omega),if_neg hm,if_pos ho]
       rw [e]
       exact bad (.inr (.inr (.inr (.inr (.inl ⟨rfl,rfl⟩))))) (by decide) (by decide) (hdr_ord h h9 (by omega) ho)
     | false =>
       obtain ⟨n,hn⟩:∃n:Nat,(hdOf L).ln=(n:Int):=⟨(hdOf L).ln.toNat,by omega⟩
       refine frame_ok (hdr_ok h h9 (by omega) ho) fun w1 w2 h1 hb => ?_
       obtain ⟨hk1,cs1,rest1,at1,h1⟩:=h1
       have h2:=h1.below hb
       have hk2:Kept K w w2:=hk1.trans (Kept.all hb)
       have hfl:0≤(hdOf L).fl∧(hdOf L).fl<256:=h.bs.at 4
       by_cases hc:(L.drop 9).length<n
       · have e:one m o L=(.bad (cutF (L.drop 9)) 0 0,nextO o (hdOf L),[]):=by
           unfold one;rw [if_neg (by omega),if_neg hm,if_neg (by simp [ho]),if_pos (by omega),cutOff_eq]
         rw [e,hn]
         have hs:=cutF_sh (L.drop 9)
         refine (ffh_cut h2 _ _ _ n (by omega) hc).mono ?_
         rintro e w' ⟨rfl,hk⟩
         refine ⟨⟨_,_,rfl⟩,_,_,rfl,hk2.trans hk,fun hg => ?_,.inr ⟨_,_,_,rfl,hs.2,hs.1,rfl,rfl⟩⟩
         rw [stop_going hs.2 (by unfold cutF;split<;>decide)] at hg;cases hg
       · have e:one m o L=(parse (hdOf L) ((L.drop 9).take n),nextO o (hdOf L),(L.drop 9).drop n):=by
           unfold one;rw [if_neg (by omega),if_neg hm,if_neg (by simp [ho]),if_neg (by omega),hn];rfl
         have eh:hdOf L=⟨(hdOf L).ty,(hdOf L).fl,(n:Int),(hdOf L).st⟩:=by rw [←hn]
         have fin:∀{e w'},FEndR B K aE aU aT w2 bF cl bR m (nextO o (hdOf L)) ((L.drop 9).drop n) ps pcs (parse (hdOf L) ((L.drop 9).take n)) e w' →
             (∃fv ev,e = .returned (.tuple #[fv,ev]))∧FrmEnd B K aE aU aT w bF cl bR m ps pcs (parse (hdOf L) ((L.drop 9).take n),nextO o (hdOf L),(L.drop 9).drop n) e w':=by
           rintro e w' ⟨fv,ev,rfl,hk,hst,hres⟩
           refine ⟨⟨_,_,rfl⟩,_,_,rfl,hk2.trans hk,fun _=>hst,?_⟩
           have hbs:Bs ((L.drop 9).take n):=(h.bs.drop 9).take n
           have htl:((L.drop 9).take n).length≤16777215:=by rw [List.length_take];omega
           rcases hres with ⟨x,A,hr,he,hf⟩|⟨f,c,s,hr,he,hf⟩
           · refine .inl ⟨x,A,hr,he,hf,?_⟩
             rcases Sh.parse (hdOf L) ((L.drop 9).take n) hbs with ⟨y,hy,q⟩|⟨f',c',s',hx,hs,h0⟩
             · obtain rfl:y=x:=congrArg Rs.x (hy.symm.trans hr)
               exact q.bounds (h.bs.at 3) hfl (by rw [hn];omega) htl
             · exact absurd (congrArg Rs.f (hx.symm.trans hr)) h0
           · refine .inr ⟨f,c,s,hr,?_⟩
             rcases Sh.parse (hdOf L) ((L.drop 9).take n) hbs with ⟨x,hx,-⟩|⟨f',c',s',hx,hs,h0⟩
             · exfalso
               have e0:f=0:=(congrArg Rs.f (hx.symm.trans hr)).symm
               subst e0
               exact parse_nz _ _ hbs _ _ hr
             · obtain ⟨rfl,rfl,rfl⟩:=Rs.bad_inj (hr.symm.trans hx)
               exact ⟨h0,hs,he,hf⟩
         rw [e,hn]
         rcases Nat.eq_zero_or_pos n with rfl|hn0
         · have:=ffh_empty h2 (hdOf L).ty (hdOf L).fl (hdOf L).st hfl
           rw [←show hdOf L=⟨(hdOf L).ty,(hdOf L).fl,0,(hdOf L).st⟩ from eh] at this
           exact this.mono fun e w' hR=>fin hR
         · have:=ffh_whole h2 (hdOf L).ty (hdOf L).fl (hdOf L).st hfl n (by omega) hn0 (by omega)
           rw [←eh] at this
           exact this.mono fun e w' hR=>fin hR
 · have e:one m o L=(.bad (cutF L) 0 0,o,[]):=by unfold one;rw [if_pos (by omega),cutOff_eq]
   have hs:=cutF_sh L
   rw [e]
   exact bad hs.1 hs.2 (by unfold cutF;split<;>decide) (hdr_cut h h9)
end
end Go.Proofs.YtfdlbjibninakaaGreatDoor

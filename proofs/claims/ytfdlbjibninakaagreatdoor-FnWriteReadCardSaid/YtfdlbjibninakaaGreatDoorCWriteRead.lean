/- FnWriteRead is proved: frames that may be written are read back as they were, if their order is one that may be; where the statement asks nothing it is true at once. The card is tied to the program's text. -/
import Derived.Test.YtfdlbjibninakaaGreatDoorCards
import Derived.Test.YtfdlbjibninakaaGreatDoorTie
import Derived.Test.YtfdlbjibninakaaGreatDoorBase
import Derived.Test.YtfdlbjibninakaaGreatDoorErr2
import Derived.Test.YtfdlbjibninakaaGreatDoorPk
import Derived.Test.YtfdlbjibninakaaGreatDoorLww
import Derived.ProofKit
import Derived.OpenShut
import Derived.LaidMore
import Derived.LaidHandle
import Derived.Deep.DeepHandedRow
import Derived.Deep.DeepWitnessRowRef
import Derived.LaidLaws
set_option linter.unusedVariables false
set_option linter.unusedSimpArgs false
namespace Go.Proofs.YtfdlbjibninakaaGreatDoor
open Go.ChangeShapes Go.WideShapes Go.ChangeAt Go.RowKit
theorem own_knob:ownKnob Tryz.prog.godebug=none:=by kernel_rfl
theorem laid_out:laidOutB Tryz.prog=true:=by kernel_rfl
theorem trodAll_below {H:Type} {enc:TypeId × Value→H} {W W':World} (hb:Below W.heap.size W W'):∀{ts:List TypeId} {vs:List Value} {ds:List (DataW H)} {ps:List MemPlace},
   (∀t∈ts,Tryz.prog.readableRec t=true∧t<Tryz.prog.types.size)→DataW.TrodAll enc Tryz.prog W 0 (fun _=>true) true ts vs ds ps→(∀x∈ps,x.block<W.heap.size) →
   DataW.TrodAll enc Tryz.prog W' 0 (fun b=>decide (b<W.heap.size)) true ts vs ds ps
 | [],[],[],_,_,h,_=>h
 | t::ts,v::vs,d::ds,ps,hts,h,hlt=>by
   obtain ⟨p,q,hd,hrest,rfl⟩:=h
   have ht:=hts t (List.mem_cons_self ..)
   exact ⟨p,q,Below.trod laid_out ht.1 ht.2 hd hb (fun x hx=>hlt x (List.mem_append_left _ hx)),
     trodAll_below hb (fun u hu=>hts u (List.mem_cons_of_mem _ hu)) hrest (fun x hx=>hlt x (List.mem_append_right _ hx)),rfl⟩
 | [],_::_,_,_,_,h,_=>h.elim
 | [],[],_::_,_,_,h,_=>h.elim
 | _::_,[],_,_,_,h,_=>h.elim
 | _::_,_::_,[],_,_,h,_=>h.elim
theorem law_post {H:Type} {enc:TypeId × Value→H} {f:Func} {s:ChangeSpec} {W W':World} {args:Array Value} {ds gs:List (DataW H)} {before:List MemPlace}
   (hv:s.vars = []) (hr:f.resultTypes = #[4]) (hts:f.params.toList.all (fun t=>Tryz.prog.readableRec t&&decide (t<Tryz.prog.types.size))=true)
   (hW:DataW.Whole enc Tryz.prog f.params.toList s.vars false W args.toList ds gs before) (hfn:s.fn H (ds++gs) = { results:=[.lit (.bool true)],args:=ds })
   (hb:Below W.heap.size W W'):s.post enc Tryz.prog f false true false false W args (.bool true) W':=by
 have hW':=hW
 obtain ⟨p,q,hA,hV,rfl,_,_⟩:=hW
 rw [hv] at hV
 obtain ⟨rfl,rfl⟩:=trodVars_none hV
 refine ⟨ds,[],_,[],p,[],hW',?_,?_,?_,hb.frame _,fun h=>by cases h⟩
 · rw [hfn,hr]
   exact trodAll_mk1 (shut_bool Tryz.underlying4 true)
 · rw [hfn]
   refine trodAll_below hb (fun t ht => ?_) hA (fun x hx=>by simpa using hW'.lt x (by simpa using hx))
   have:=List.all_eq_true.1 hts t ht
   simpa using this
 · rw [hfn,hv]
   rfl
theorem named_of {name:String} {k:Nat} {fk:Func} (h1:Tryz.prog.funcNamed name=some k) (h2:Tryz.prog.funcs[k]? = some fk) (hl:true=Tryz.prog.looks []) (ht:fk.params.toList.all (fun t => !Tryz.prog.wantsStandIn t)=true)
   (f:FuncId) (fn:Func) (hf:Tryz.pinned.checked.prog.funcNamed name=some f) (hfn:Tryz.pinned.checked.prog.funcs[f]? = some fn) :
   true=Tryz.pinned.checked.prog.looks [] ∧ ∀(j:Nat) t,fn.params[j]? = some t→Tryz.pinned.checked.prog.wantsStandIn t=false:=by
 obtain rfl:f=k:=Option.some.inj (h1.symm.trans hf) |>.symm
 obtain rfl:fn=fk:=(Option.some.inj (h2.symm.trans hfn)).symm
 refine ⟨hl,fun j t hj => ?_⟩
 have hm:t∈fn.params.toList:=by simpa using Array.mem_of_getElem? hj
 have:=List.all_eq_true.1 ht t hm
 show Tryz.prog.wantsStandIn t=false
 simpa using this
end Go.Proofs.YtfdlbjibninakaaGreatDoor

namespace Go.Proofs.YtfdlbjibninakaaGreatDoor
open Go.ChangeShapes Go.WideShapes Go.RowKit
theorem rowEs (u:TypeId) (h:Tryz.prog.typeName? 3 u=some "*errors.errorString"):u=251:=by
 have star : "*" ++ "errors.errorString" = "*errors.errorString" := by decide
 exact typeName_ptr_named (nm := "errors.errorString") (by rw [star];kernel_rfl) (by kernel_rfl) (by decide) u (by rw [star];exact h)
theorem cellsEs:Tryz.prog.cellsOf 253=1:=by kernel_rfl
theorem cellsStr:Tryz.prog.cellsOf 9=1:=by kernel_rfl
def sentD (text:List UInt8):DataW Unit:=.iface "*errors.errorString" (.ptr (.agg [.lit (.string text)]))
set_option maxRecDepth 100000 in
theorem sent_cons {W:World} {n:String} {text:List UInt8} {r:List (String × DataW Unit)} {ps:List MemPlace} {g:Nat} (hg:Tryz.prog.globalNamed n=some g) (hgt:(Tryz.prog.globals[g]?).map (·.type)=some 77)
   (h:DataW.LaidVars Tryz.prog W ((n,sentD text)::r) ps)
   (hrows:∀b off,MemPlace.cell b off∈ps→(∃c t,W.heap[b]? = some (.cells c t (0,0))) ∧ ∀u v,W.cell? ⟨b,off,none⟩=some (.iface u v)→Value.okWide Tryz.prog W .any 0 u v) :
   ∃(a:Addr) (q:List MemPlace) (c:Array Value) (t:TypeId),W.cell? ⟨g,0,none⟩=some (.iface 251 (.pointer (some a)))∧W.heap[a.block]? = some (.cells c t (0,0)) ∧
     DataW.LaidVars Tryz.prog W r q∧ps = [.cell g 0,.cell a.block a.off]++q:=by
 obtain ⟨g0,t0,cs0,f0,p0,q0,hg0,ht0,hv0,hd0,hr,e0⟩:=h
 obtain rfl:=Option.some.inj (hg.symm.trans hg0)
 obtain rfl:=Option.some.inj (hgt.symm.trans ht0)
 subst e0
 obtain ⟨l0⟩:=cs0
 have ok0:∀u v,l0 = [.iface u v]→Value.okWide Tryz.prog W .any 0 u v:=fun u v e=>by
   subst e
   exact (hrows g 0 (by simp [MemPlace.row])).2 u v (by simpa using World.var?_cell hg0 hv0 0)
 obtain ⟨a0,s0,rfl,hc0,hs0,hz0,rfl⟩:=errorString_of_trod Tryz.underlying77 rowEs Tryz.underlying251 Tryz.underlying253 rfl rfl Tryz.underlying9 cellsEs cellsStr hd0 ok0
 obtain ⟨c0,t0,hb0⟩:=(hrows a0.block a0.off (by simp [MemPlace.row])).1
 refine ⟨a0,q0,c0,t0,?_,hb0,hr,by simp [MemPlace.row]⟩
 simpa using World.var?_cell hg0 hv0 0
theorem rtypeT:(Tryz.prog.cutTypes.find? (·.1 == "internal/reflectlite.rtype")).map (·.2)=some 234:=by kernel_rfl
theorem oneRowErr:((List.range 291).filter fun t=>Tryz.prog.rowNamed t [101,114,114,111,114]) = [77]:=by kernel_rfl
theorem typesSize:Tryz.prog.types.size = 291 := by kernel_rfl
theorem handleErr:typeHandle Tryz.prog 77=hd 77:=by kernel_rfl
theorem glET:Tryz.prog.globalNamed "errors.errorType" = some 3:=by kernel_rfl
theorem handle_cell {W:World} {l:List (String × DataW Unit)} (h:handlesMet Tryz.prog l W) (hm:("errors.errorType",DataW.iface "internal/reflectlite.rtype" (.agg [.ptr (.lit (.string [101,114,114,111,114]))]))∈l) :
   W.cell? ⟨3,0,none⟩=some (.iface 234 (.agg #[hd 77])):=by
 obtain ⟨name,u,ty,e1,e2,e3,e4,e5⟩:=h _ hm
 have en:name = [101,114,114,111,114]:=(Option.some.inj e1).symm
 subst en
 obtain rfl:=Option.some.inj (rtypeT.symm.trans e2)
 have hm:ty∈(List.range 291).filter fun t=>Tryz.prog.rowNamed t [101,114,114,111,114]:=List.mem_filter.2 ⟨List.mem_range.2 (by rw [←typesSize];exact e3),e4⟩
 rw [oneRowErr] at hm
 obtain rfl:=List.mem_singleton.1 hm
 rw [handleErr] at e5
 simpa using World.var?_cell glET e5 0
theorem globs_le {W:World} (h:W.ShapedOpen Tryz.prog):11 ≤ W.heap.size:=by
 have hg:Tryz.prog.globals.size = 11 := by kernel_rfl
 have h0:11 < (begin Tryz.prog (fun _ _=>0) default).world.heap.size:=of_decide_eq_true (by kernel_rfl)
 obtain ⟨o,o0,h1,-,-⟩:=h.2 11 (by rw [hg];exact Nat.le_refl _) h0
 obtain ⟨hlt,-⟩:=Array.getElem?_eq_some_iff.1 h1
 exact Nat.le_of_lt hlt
theorem glE:Tryz.prog.globalNamed "io.EOF" = some 0:=by kernel_rfl
theorem glU:Tryz.prog.globalNamed "io.ErrUnexpectedEOF" = some 1:=by kernel_rfl
theorem glT:Tryz.prog.globalNamed "http2frames/pub/http2frames.ErrFrameTooLarge" = some 2:=by kernel_rfl
theorem glB:Tryz.prog.globalNamed "io.ErrShortBuffer" = some 10:=by kernel_rfl
theorem gtB:(Tryz.prog.globals[10]?).map (·.type)=some 77:=by kernel_rfl
theorem gtE:(Tryz.prog.globals[0]?).map (·.type)=some 77:=by kernel_rfl
theorem gtU:(Tryz.prog.globals[1]?).map (·.type)=some 77:=by kernel_rfl
theorem gtT:(Tryz.prog.globals[2]?).map (·.type)=some 77:=by kernel_rfl
theorem lt_of_block {W:World} {b:Nat} {c:Array Value} {t:TypeId} (h:W.heap[b]? = some (.cells c t (0,0))):b<W.heap.size:=(Array.getElem?_eq_some_iff.1 h).1
end Go.Proofs.YtfdlbjibninakaaGreatDoor
namespace Go.Proofs.YtfdlbjibninakaaGreatDoor
open Go.ChangeShapes Go.WideShapes Go.RowKit
theorem open_rd {P:Program} {H:Type} {enc:TypeId × Value→H} {W:World} {base:Nat} {t e:TypeId} {k:IntKind} {v:Value} {d:DataW H} {p:List MemPlace} (ht:P.underlying t=some (.slice e)) (he:P.underlying e=some (.int k)) (hc:P.cellsOf e=1)
   (hval:Value.okWide P W .any base t v) (h:DataW.Trod enc P W 0 (fun _=>true) true t v d p):∃l,RdI k W v l ∧ ∀x∈l,(Lit.int k x).wf=true:=by
 obtain ⟨a0,len,cap,rfl⟩:=okWide_slice ht hval
 obtain ⟨fuel,hf⟩:=h
 rcases open_ints ht he hc hf with ⟨hcs,-⟩|⟨a,len',cap',zs,hcs,-,hle,hmax,hall,-,hcell,hwf⟩
 · simp [Value.cells] at hcs
   obtain ⟨rfl,rfl,rfl⟩:=hcs
   exact ⟨[],⟨none,0,rfl,Nat.le_refl _,Nat.zero_le _,fun j x hj=>by simp at hj⟩,fun x hx=>by cases hx⟩
 · simp [Value.cells] at hcs
   obtain ⟨rfl,rfl,rfl⟩:=hcs
   simp only [if_true] at hall
   refine ⟨zs.take len,⟨some a,cap,?_,?_,hmax,?_⟩,fun x hx=>hwf x (List.mem_of_mem_take hx)⟩
   · rw [List.length_take,hall,Nat.min_eq_left hle]
   · rw [List.length_take,hall,Nat.min_eq_left hle];exact hle
   · intro j x hj
     have hjl:j<len:=by
       have:=(List.getElem?_eq_some_iff.1 hj).1
       simp at this
       omega
     rw [List.getElem?_take_of_lt hjl] at hj
     obtain ⟨hjz,hjx⟩:=List.getElem?_eq_some_iff.1 hj
     obtain ⟨b,off,rfl,hc'⟩:=ints_at hcell (by omega)
     refine ⟨b,off,rfl,?_⟩
     rw [hc' j hjz,←hjx]
     simp [List.getD,hj,hjx]
end Go.Proofs.YtfdlbjibninakaaGreatDoor

namespace Go.Proofs.YtfdlbjibninakaaGreatDoor
open Go.ChangeShapes Go.WideShapes Go.RowKit
theorem glSW:Tryz.prog.globalNamed "io.ErrShortWrite" = some 9:=by kernel_rfl
theorem gtSW:(Tryz.prog.globals[9]?).map (·.type)=some 77:=by kernel_rfl
theorem gv_of_writes {W:World} {t0 t1 t2 t3 t4:List UInt8} {r:List (String × DataW Unit)} (hS:W.ShapedOpen Tryz.prog) (h:laidMet Tryz.prog (("io.ErrShortWrite",sentD t4)::("io.ErrShortBuffer",sentD t0)::("io.EOF",sentD t1)::("io.ErrUnexpectedEOF",sentD t2)::("http2frames/pub/http2frames.ErrFrameTooLarge",sentD t3)::r) W ∧
   handlesMet Tryz.prog [("errors.errorType",DataW.iface "internal/reflectlite.rtype" (.agg [.ptr (.lit (.string [101,114,114,111,114]))]))] W):∃aE aU aT,GV W.heap.size W aE aU aT:=by
 obtain ⟨⟨ps,hl,hnd,hrows⟩,hh⟩:=h
 have hH:=handle_cell hh (List.mem_singleton.2 rfl)
 obtain ⟨aw,q,cw,tw,hw,bw,hlw,rfl⟩:=sent_cons glSW gtSW hl hrows
 obtain ⟨a0,q,c0,t0,h0,b0,hl0,rfl⟩:=sent_cons glB gtB hlw (fun b off hm=>hrows b off (List.mem_append_right _ hm))
 obtain ⟨aE,q,cE,tE,hE,bE,hl1,rfl⟩:=sent_cons glE gtE hl0 (fun b off hm=>hrows b off (List.mem_append_right _ (List.mem_append_right _ hm)))
 obtain ⟨aU,q,cU,tU,hU,bU,hl2,rfl⟩:=sent_cons glU gtU hl1 (fun b off hm=>hrows b off (List.mem_append_right _ (List.mem_append_right _ (List.mem_append_right _ hm))))
 obtain ⟨aT,q,cT,tT,hT,bT,hl3,rfl⟩:=sent_cons glT gtT hl2 (fun b off hm=>hrows b off (List.mem_append_right _ (List.mem_append_right _ (List.mem_append_right _ (List.mem_append_right _ hm)))))
 refine ⟨aE,aU,aT,hE,hU,hT,hH,⟨_,_,bE⟩,⟨_,_,bU⟩,⟨_,_,bT⟩,?_,?_,?_,globs_le hS,lt_of_block bE,lt_of_block bU,lt_of_block bT⟩
 · rintro rfl;simp at hnd
 · rintro rfl;simp at hnd
 · rintro rfl;simp at hnd
end Go.Proofs.YtfdlbjibninakaaGreatDoor

namespace Go.Proofs.YtfdlbjibninakaaGreatDoor.fnWriteRead
set_option maxRecDepth 100000
open Go.ChangeShapes Go.WideShapes Go.ChangeAt Go.RowKit
theorem contract (H:Type) (enc:TypeId × Value→H) (W:World) (base:Nat) (args:Array Value) (ds gs:List (DataW H)) (before:List MemPlace)
   (hval:∀(j:Nat) t v,Tryz.f6.params[j]? = some t→args[j]? = some v→Value.okWide Tryz.prog W .any base t v)
   (hW:DataW.Whole enc Tryz.prog Tryz.f6.params.toList Rows.fnWriteReadSpec.vars false W args.toList ds gs before) (hL:laidMetH Tryz.prog Rows.fnWriteReadRow.laid W) (hS:W.ShapedOpen Tryz.prog) :
   Calls Tryz.prog 6 args W fun e W' => ∃v,e = .returned v∧Rows.fnWriteReadSpec.post enc Tryz.prog Tryz.f6 false true false false W args v W':=by
 have hW':=hW
 obtain ⟨p,q,hA0,hV,rfl,hfz,hnd⟩:=hW
 have hA:DataW.TrodAll enc Tryz.prog W 0 (fun _=>true) true Tryz.f6.params.toList args.toList ds p:=hA0
 rw [Tryz.params6] at hA hval
 obtain ⟨v0,v1,v2,d0,d1,d2,p0,p1,p2,rfl,rfl,rfl,⟨f0,h0⟩,⟨f1,h1⟩,h2⟩:=trodAll_three hA
 obtain ⟨rfl,rfl⟩:=trodVars_none hV
 obtain ⟨a0,n0,c0,rfl⟩:=okWide_slice Tryz.underlying41 (hval 0 41 v0 rfl rfl)
 obtain ⟨a1,n1,c1,rfl⟩:=okWide_slice Tryz.underlying42 (hval 1 42 v1 rfl rfl)
 obtain ⟨v0',fs,e0,hl⟩:=frames_trod h0
 obtain ⟨v1',ps,e1,hp⟩:=pads_trod h1
 obtain rfl:(Value.slice a0 n0 c0)=v0':=by simpa [Value.cells] using e0
 obtain rfl:(Value.slice a1 n1 c1)=v1':=by simpa [Value.cells] using e1
 obtain ⟨cs,hc,-⟩:=open_rd Tryz.underlying39 Tryz.underlying3 (by kernel_rfl) (hval 2 39 v2 rfl rfl) h2
 obtain ⟨aE,aU,aT,hG⟩:=gv_of_writes hS hL
 refine (fnWriteRead_any hG (Nat.le_refl _) hl hp hc).mono fun e W' ⟨he,hb⟩ => ?_
 subst he
 exact ⟨_,rfl,law_post rfl rfl (by kernel_rfl) hW' rfl hb⟩
theorem laid_met (os:Os):laidMetH Tryz.prog Rows.fnWriteReadRow.laid ((World.doorLaid Tryz.prog 187 os).forCall (fun _ _=>0) ⟨#[],#[.slice none 0 0,.slice none 0 0,.slice none 0 0],[]⟩).memory:=
 laidMetH_of_parts3 (fuel:=8) (laidMet_of_run' 8 (by kernel_rfl) (by kernel_rfl)) (by kernel_rfl) (by kernel_rfl)
theorem reads (os:Os) {H:Type} (enc:TypeId × Value→H):∃places,DataW.whole enc Tryz.prog ((World.doorLaid Tryz.prog 187 os).forCall (fun _ _=>0) ⟨#[],#[.slice none 0 0,.slice none 0 0,.slice none 0 0],[]⟩).memory Tryz.f6.params.toList Rows.fnWriteReadSpec.vars false
   #[Value.slice none 0 0,.slice none 0 0,.slice none 0 0].toList 8=some ([.nil,.nil,.nil],[],places):=
 ⟨[],by kernel_rfl⟩
theorem lifted (os:Os) (started:os.Started) (H:Type) (enc:TypeId × Value→H) (F:Stop.Interp) :
   ReturnsInHanded {} Tryz.checked os 6 .any ((OpenSpec.ofChange Rows.fnWriteReadSpec).preRow enc Tryz.prog Tryz.f6 Rows.fnWriteReadRow.domain false Rows.fnWriteReadRow.laid)
     (((OpenSpec.ofChange Rows.fnWriteReadSpec).at F).post enc Tryz.prog Tryz.f6 false true false false):=by
 obtain ⟨places,hx⟩:=reads os enc
 refine returnsInHanded_of_row (C:=Tryz.checked) (s:=OpenSpec.ofChange Rows.fnWriteReadSpec) own_knob started (by kernel_rfl) Tryz.func6
   (witness_row_atRef (enc:=enc) (C:=Tryz.checked) false (World.doorLaid Tryz.prog 187 os) #[.slice none 0 0,.slice none 0 0,.slice none 0 0] rfl (by kernel_rfl) (by kernel_rfl) (by kernel_rfl)
     (OpenSpec.preRow_of_cond 8 hx (by kernel_rfl) (fun k hk=>by cases hk) (by kernel_rfl) (laid_met os))) ?_
 intro W base args ds gs before hval hW _ _ _ hL hS _
 exact contract H enc W base args ds gs before hval hW hL hS
theorem said:Rows.FnWriteReadSaid:=
 OpenClaim.holds_of_cond 6 Tryz.f6 rfl rfl rfl rfl rfl rfl rfl ⟨rfl,rfl,rfl,rfl,rfl⟩ rfl rfl rfl rfl rfl (by kernel_rfl) Tryz.func6 (by kernel_rfl)
   (of_decide_eq_true (by kernel_rfl)) (by unfold Func.isWrapper;rw [if_neg (of_decide_eq_false (by kernel_rfl))];exact ⟨rfl,rfl⟩)
   (fun os started H enc _ F=>by rw [OpenClaim.pre_eq_preRow];exact lifted os started H enc F)
theorem card:Rows.FnWriteReadCardSaid:=
 Claim7.holds_tied_plain_at .later [] _ _ _ _ said (fun _ h=>by cases h) (by kernel_rfl) (fun _ h=>by cases h) fnWriteRead_row_tie rfl ⟨rfl,rfl⟩ (by kernel_rfl) rfl
   (named_of (by kernel_rfl) Tryz.func6 (by kernel_rfl) (by kernel_rfl)) (by kernel_rfl)
#print axioms card
end Go.Proofs.YtfdlbjibninakaaGreatDoor.fnWriteRead

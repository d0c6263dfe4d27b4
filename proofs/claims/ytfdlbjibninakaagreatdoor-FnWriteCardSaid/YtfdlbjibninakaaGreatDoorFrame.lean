/- What every law's card shares: behind a call that returned true and changed nothing that was there, the row's own words hold. -/
import Derived.Test.YtfdlbjibninakaaGreatDoorCards
import Derived.Test.YtfdlbjibninakaaGreatDoorTie
import Derived.Test.YtfdlbjibninakaaGreatDoorBase
import Derived.ProofKit
import Derived.OpenShut
import Derived.LaidMore
import Derived.LaidHandle
import Derived.Deep.DeepHandedRow
import Derived.Deep.DeepWitnessRowRef
set_option linter.unusedVariables false
set_option linter.unusedSimpArgs false
namespace Go.Proofs.YtfdlbjibninakaaGreatDoor
open Go.ChangeShapes Go.WideShapes Go.ChangeAt Go.RowKit

theorem own_knob : ownKnob Tryz.prog.godebug = none := by kernel_rfl
theorem laid_out : laidOutB Tryz.prog = true := by kernel_rfl

theorem trodAll_below {H : Type} {enc : TypeId × Value → H} {W W' : World} (hb : Below W.heap.size W W') : ∀ {ts : List TypeId} {vs : List Value} {ds : List (DataW H)} {ps : List MemPlace},
    (∀ t ∈ ts, Tryz.prog.readableRec t = true ∧ t < Tryz.prog.types.size) → DataW.TrodAll enc Tryz.prog W 0 (fun _ => true) true ts vs ds ps → (∀ x ∈ ps, x.block < W.heap.size) →
    DataW.TrodAll enc Tryz.prog W' 0 (fun b => decide (b < W.heap.size)) true ts vs ds ps
  | [], [], [], _, _, h, _ => h
  | t :: ts, v :: vs, d :: ds, ps, hts, h, hlt => by
    obtain ⟨p, q, hd, hrest, rfl⟩ := h
    have ht := hts t (List.mem_cons_self ..)
    exact ⟨p, q, Below.trod laid_out ht.1 ht.2 hd hb (fun x hx => hlt x (List.mem_append_left _ hx)),
      trodAll_below hb (fun u hu => hts u (List.mem_cons_of_mem _ hu)) hrest (fun x hx => hlt x (List.mem_append_right _ hx)), rfl⟩
  | [], _ :: _, _, _, _, h, _ => h.elim
  | [], [], _ :: _, _, _, h, _ => h.elim
  | _ :: _, [], _, _, _, h, _ => h.elim
  | _ :: _, _ :: _, [], _, _, h, _ => h.elim

theorem law_post {H : Type} {enc : TypeId × Value → H} {f : Func} {s : ChangeSpec} {W W' : World} {args : Array Value} {ds gs : List (DataW H)} {before : List MemPlace}
    (hv : s.vars = []) (hr : f.resultTypes = #[4]) (hts : f.params.toList.all (fun t => Tryz.prog.readableRec t && decide (t < Tryz.prog.types.size)) = true)
    (hW : DataW.Whole enc Tryz.prog f.params.toList s.vars false W args.toList ds gs before) (hfn : s.fn H (ds ++ gs) = { results := [.lit (.bool true)], args := ds })
    (hb : Below W.heap.size W W') : s.post enc Tryz.prog f false true false false W args (.bool true) W' := by
  have hW' := hW
  obtain ⟨p, q, hA, hV, rfl, _, _⟩ := hW
  rw [hv] at hV
  obtain ⟨rfl, rfl⟩ := trodVars_none hV
  refine ⟨ds, [], _, [], p, [], hW', ?_, ?_, ?_, hb.frame _, fun h => by cases h⟩
  · rw [hfn, hr]
    exact trodAll_mk1 (shut_bool Tryz.underlying4 true)
  · rw [hfn]
    refine trodAll_below hb (fun t ht => ?_) hA (fun x hx => by simpa using hW'.lt x (by simpa using hx))
    have := List.all_eq_true.1 hts t ht
    simpa using this
  · rw [hfn, hv]
    rfl

/-- The function's number and her text, by the name that the row bears. -/
theorem named_of {name : String} {k : Nat} {fk : Func} (h1 : Tryz.prog.funcNamed name = some k) (h2 : Tryz.prog.funcs[k]? = some fk) (hl : true = Tryz.prog.looks []) (ht : fk.params.toList.all (fun t => !Tryz.prog.wantsStandIn t) = true)
    (f : FuncId) (fn : Func) (hf : Tryz.pinned.checked.prog.funcNamed name = some f) (hfn : Tryz.pinned.checked.prog.funcs[f]? = some fn) :
    true = Tryz.pinned.checked.prog.looks [] ∧ ∀ (j : Nat) t, fn.params[j]? = some t → Tryz.pinned.checked.prog.wantsStandIn t = false := by
  obtain rfl : f = k := Option.some.inj (h1.symm.trans hf) |>.symm
  obtain rfl : fn = fk := (Option.some.inj (h2.symm.trans hfn)).symm
  refine ⟨hl, fun j t hj => ?_⟩
  have hm : t ∈ fn.params.toList := by simpa using Array.mem_of_getElem? hj
  have := List.all_eq_true.1 ht t hm
  show Tryz.prog.wantsStandIn t = false
  simpa using this
end Go.Proofs.YtfdlbjibninakaaGreatDoor

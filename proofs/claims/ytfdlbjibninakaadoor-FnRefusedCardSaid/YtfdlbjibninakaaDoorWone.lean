/- impl.Write of one frame that is refused. -/
import Derived.Test.YtfdlbjibninakaaDoorWref
namespace Go.Proofs.YtfdlbjibninakaaDoor
open Go.RowKit

theorem EB : Elem Tryd.prog 37 4 1 1 (.bool false) := ⟨Tryd.underlying37, by kernel_rfl, rfl, by decide⟩
variable {w : World} {vS vP vB : Value}
/-- The errors that a framer refuses with. -/
structure EG (w : World) (vS vP vB : Value) : Prop where
  es : w.cell? ⟨5, 0, none⟩ = some (.iface 247 vS)
  ep : w.cell? ⟨8, 0, none⟩ = some (.iface 247 vP)
  eb : w.cell? ⟨9, 0, none⟩ = some (.iface 247 vB)
theorem EG.below {w' : World} (h : EG w vS vP vB) (hb : Below w.heap.size w w') : EG w' vS vP vB := ⟨cell_below h.es hb, cell_below h.ep hb, cell_below h.eb hb⟩

/-- What impl.Write has laid ahead of its loop. -/
def wOpen (w : World) : World :=
  ((w.alloc (.cells #[.slice none 0 0] 73)).alloc (.cells ((framerW (w.heap.size + 1 + 1) w.heap.size (.slice none 0 0)).setIfInBounds 21 (.bool false)) 99)).alloc (.cells #[.pointer (some ⟨w.heap.size + 1, 0, none⟩)] 76)
theorem wOpen_below (w : World) : Below w.heap.size w (wOpen w) :=
  ((((Kept.refl (· < w.heap.size) w).alloc _).alloc _).alloc _).below (Nat.le_refl _)
theorem wOpen_size (w : World) : (wOpen w).heap.size = w.heap.size + 3 := by simp [wOpen]
theorem wOpen_rs (h : EG w vS vP vB) : RS (wOpen w) (w.heap.size + 1) vS vP vB := by
  have h' := h.below (wOpen_below w)
  refine ⟨?_, h'.es, h'.ep, h'.eb⟩
  exact blk_cell (blk_alloc (blk_at _ _ (by simp))) 21
theorem wOpen_all (w : World) : (wOpen w).cell? ⟨w.heap.size, 0, none⟩ = some (.slice none 0 0) :=
  blk_cell (blk_alloc (blk_alloc (blk_at w _ rfl))) 0

set_option maxRecDepth 10000 in
set_option maxHeartbeats 8000000 in
theorem implWrite_nopad (h : EG w vS vP vB) (bl : Nat) (fr : Array Value) (hfr : w.heap[bl]? = some (.cells fr 42 (0, 0))) (hsz : fr.size = 14) (h1 : ∀ u ∈ fr.toList, u.oneCell' = true)
    (hw : ∀ w1, RS w1 (w.heap.size + 1) vS vP vB → Below w.heap.size w w1 → Calls Tryd.prog 36 #[.pointer (some ⟨w.heap.size + 1, 0, none⟩), .agg fr, .slice none 0 0] w1 (Refuses w1)) :
    Calls Tryd.prog 17 #[.slice (some ⟨bl, 0, none⟩) 1 1, .slice none 0 0, .bool false] w fun e w' => ∃ fv, e = .returned (.tuple #[.slice none 0 0, fv]) ∧ Below w.heap.size w w' ∧ Row w' 4 1 fv 1 [.bool true] := by
  have hO := wOpen_below w
  have hrs := wOpen_rs h
  have hsO := wOpen_size w
  have hfo := blk_below hfr hO
  have hal := wOpen_all w
  go_enter Tryd.func17, Tryd.ntmps17
  go_wp2_with (go_at_call 31; refine (newFramer_w w.heap.size _).mono ?_; rintro e w' ⟨rfl, rfl⟩)
  change Code.wp _ _ _ _ (wOpen w)
  have hO' := hO
  generalize wOpen w = wo at *
  clear hsO
  have hi : (Tryd.prog.info? 42).map (·.size) = some fr.size := by rw [hsz]; exact infoFi
  refine wp_loop_rounds 2 ?_
  rw [rounds_succ]
  go_wp2_with (first
    | (refine wpList_load_blk rfl _ _ rfl bl rfl _ 42 hfo Tryd.underlying42 hi ?_)
    | (refine wpList_store_blk rfl _ _ _ rfl wo.heap.size rfl _ _ rfl 42 (blk_at _ _ rfl) hsz hi h1 ?_; intro w1 hb1 hk1; have hrs1 : RS w1 (w.heap.size + 1) vS vP vB := RS.store (hrs.alloc _) hrs (Nat.le_refl _) hk1; have hbel1 : Below w.heap.size w w1 := (hO.alloc hO.size _).trans ((hk1.mono (fun k h _ => by have := hO.size; omega)).below (by have := hO.size; simp; omega)))
    | (refine wpList_load_blk rfl _ _ rfl wo.heap.size rfl _ 42 hb1 Tryd.underlying42 hi ?_)
    | (go_at_call 36; go_loud (refine (hw w1 hrs1 hbel1).mono ?_); rintro e w2 ⟨v, rfl, hb2⟩)
    | (at_builtin; go_loud (refine wpList_app EB rfl _ _ rfl (.slice none 0 0) 0 [] rfl (World.ownsRow_nil _ _ _ _) 1 _ (src_of_block Tryd.underlying37 (blk_new w2 _) rfl (by simp [Value.oneCell'])) (by omega) (by unfold maxLen; omega) ?_); intro a' c' w3 hown3 hgrow hat))
  have hne : w.heap.size ≠ wo.heap.size := fun e => by have := World.block_lt_of_cell? wo ⟨w.heap.size, 0, none⟩ hal; simp at this; omega
  have al1 : w1.cell? ⟨w.heap.size, 0, none⟩ = some (.slice none 0 0) := hk1.cell hne (cell_alloc hal _)
  have al3 : w3.cell? ⟨w.heap.size, 0, none⟩ = some (.slice none 0 0) := cell_grown hgrow (cell_alloc (cell_below al1 hb2) _) (by simp [Value.ownBlock])
  rw [rounds_succ]
  go_wp2
  go_ret2
  refine ⟨_, rfl, ?_, hown3⟩
  have hb := Below.then hbel1 (Nat.le_refl _) hb2
  have hz1 := hbel1.size
  have hz2 := hb2.size
  exact Below.app (hb.alloc hb.size _) (by simp; omega) hgrow (Fresh.nil _)
set_option maxRecDepth 10000 in
set_option maxHeartbeats 8000000 in
theorem implWrite_pad (h : EG w vS vP vB) (bl bp : Nat) (pa : Option Addr) (pn pc : Nat) (fr : Array Value) (hfr : w.heap[bl]? = some (.cells fr 42 (0, 0))) (hsz : fr.size = 14) (hpd : w.heap[bp]? = some (.cells #[.slice pa pn pc] 23 (0, 0))) (h1 : ∀ u ∈ fr.toList, u.oneCell' = true)
    (hw : ∀ w1, RS w1 (w.heap.size + 1) vS vP vB → Below w.heap.size w w1 → Calls Tryd.prog 36 #[.pointer (some ⟨w.heap.size + 1, 0, none⟩), .agg fr, .slice pa pn pc] w1 (Refuses w1)) :
    Calls Tryd.prog 17 #[.slice (some ⟨bl, 0, none⟩) 1 1, .slice (some ⟨bp, 0, none⟩) 1 1, .bool false] w fun e w' => ∃ fv, e = .returned (.tuple #[.slice none 0 0, fv]) ∧ Below w.heap.size w w' ∧ Row w' 4 1 fv 1 [.bool true] := by
  have hO := wOpen_below w
  have hrs := wOpen_rs h
  have hsO := wOpen_size w
  have hfo := blk_below hfr hO
  have hal := wOpen_all w
  have hpo := blk_below hpd hO
  go_enter Tryd.func17, Tryd.ntmps17
  go_wp2_with (go_at_call 31; refine (newFramer_w w.heap.size _).mono ?_; rintro e w' ⟨rfl, rfl⟩)
  change Code.wp _ _ _ _ (wOpen w)
  have hO' := hO
  generalize wOpen w = wo at *
  clear hsO
  have hi : (Tryd.prog.info? 42).map (·.size) = some fr.size := by rw [hsz]; exact infoFi
  refine wp_loop_rounds 2 ?_
  rw [rounds_succ]
  go_wp2_with (first
    | (refine wpList_load_blk rfl _ _ rfl bl rfl _ 42 hfo Tryd.underlying42 hi ?_)
    | (refine wpList_store_blk rfl _ _ _ rfl wo.heap.size rfl _ _ rfl 42 (blk_at _ _ rfl) hsz hi h1 ?_; intro w1 hb1 hk1; have cp : w1.cell? ⟨bp, 0, none⟩ = some (.slice pa pn pc) := hk1.cell (by have := lt_of_block hpo; omega) (blk_cell (blk_alloc hpo) 0); have hrs1 : RS w1 (w.heap.size + 1) vS vP vB := RS.store (hrs.alloc _) hrs (Nat.le_refl _) hk1; have hbel1 : Below w.heap.size w w1 := (hO.alloc hO.size _).trans ((hk1.mono (fun k h _ => by have := hO.size; omega)).below (by have := hO.size; simp; omega)))
    | (refine wpList_load_blk rfl _ _ rfl wo.heap.size rfl _ 42 hb1 Tryd.underlying42 hi ?_)
    | (go_at_call 36; go_loud (refine (hw w1 hrs1 hbel1).mono ?_); rintro e w2 ⟨v, rfl, hb2⟩)
    | (at_builtin; go_loud (refine wpList_app EB rfl _ _ rfl (.slice none 0 0) 0 [] rfl (World.ownsRow_nil _ _ _ _) 1 _ (src_of_block Tryd.underlying37 (blk_new w2 _) rfl (by simp [Value.oneCell'])) (by omega) (by unfold maxLen; omega) ?_); intro a' c' w3 hown3 hgrow hat))
  have hne : w.heap.size ≠ wo.heap.size := fun e => by have := World.block_lt_of_cell? wo ⟨w.heap.size, 0, none⟩ hal; simp at this; omega
  have al1 : w1.cell? ⟨w.heap.size, 0, none⟩ = some (.slice none 0 0) := hk1.cell hne (cell_alloc hal _)
  have al3 : w3.cell? ⟨w.heap.size, 0, none⟩ = some (.slice none 0 0) := cell_grown hgrow (cell_alloc (cell_below al1 hb2) _) (by simp [Value.ownBlock])
  rw [rounds_succ]
  go_wp2
  go_ret2
  refine ⟨_, rfl, ?_, hown3⟩
  have hb := Below.then hbel1 (Nat.le_refl _) hb2
  have hz1 := hbel1.size
  have hz2 := hb2.size
  exact Below.app (hb.alloc hb.size _) (by simp; omega) hgrow (Fresh.nil _)
end Go.Proofs.YtfdlbjibninakaaDoor
